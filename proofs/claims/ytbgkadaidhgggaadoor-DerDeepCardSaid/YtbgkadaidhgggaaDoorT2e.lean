/-
  What the reading of apostille/apostilleref05.read comes to, printed by a program. Conditions: none.
-/
import Derived.Test.YtbgkadaidhgggaaDoorT1
set_option linter.unusedVariables false
set_option linter.unusedSimpArgs false
set_option maxRecDepth 100000
namespace Go.Proofs.YtbgkadaidhgggaaDoorA
noncomputable def lpRReadN_19s (rk : Nat) (again : Int → Int → Int → Int → LI → Nat → Int → Nat → LC → LC → OO) (k0 : Int → Int → Int → Int → Int → LI → Nat → Int → Int → LI → Int → Int → LI → LC → Int → Int → LI → Int → Int → Int → LI → LC → Int → Int → Int → LI → LC → Int → Int → Int → Int → Int → Nat → LC → Int → LI → LC → LC → OO) (k1 : Int → Int → Int → Int → LI → Nat → LI → Int → Int → Nat → LC → LC → OO) (v1 v2 v3 v4 : Int) (v5 : LI) (v6 : Nat) (v7 : Int) (v8 : Nat) (v9 v10 : LC) : OO :=
 cond (decide ((0 : Int) < ((v5.length : Nat) : Int))) (
 let x15 : Int := IntKind.i64.wrap (v1 - 1)
 cond (bytesOk v5 && (deepOk x15 && decide (x15.toNat < rk))) (
 let r16 : Int := (ndRead v5 x15).1.1
 let r17 : LI := (ndRead v5 x15).1.2.1
 let r18 : LC := (ndRead v5 x15).1.2.2
 let r19 : Int := (ndRead v5 x15).2.1
 let r20 : Int := (ndRead v5 x15).2.2
 cond (!decide (r20 = 0)) (
 k0 v1 r20 v2 v3 v4 v5 v6 r19 r20 v5 ((v5.length : Nat) : Int) r16 r17 r18 r19 r20 v5 v1 x15 r16 r17 r18 r19 r20 r16 r17 r18 r19 r20 r20 r20 v7 v8 v9 r16 r17 r18 v10)
 (
 let l21 : LC := v10 ++ ([.agg [.int .i64 r16, .sli .u8 r17, .slg 3 r18]])
 cond (decide (((l21.length : Nat) : Int) * 56 ≤ LIM)) (
 cond (decide (((l21.length : Nat) : Int) ≤ LIM)) (
 cond (decide ((0 : Int) ≤ r19)) (
 cond (decide (r19 ≤ ((v5.length : Nat) : Int))) (
 let l22 : LI := List.take (Int.toNat r19) v5
 let l23 : LC := v9 ++ [.sli .u8 l22]
 cond (decide (((l23.length : Nat) : Int) * 24 ≤ LIM)) (
 cond (decide (((l23.length : Nat) : Int) ≤ LIM)) (
 cond (decide ((0 : Int) ≤ r19)) (
 cond (decide (r19 ≤ ((v5.length : Nat) : Int))) (
 let l24 : LI := List.drop (Int.toNat r19) v5
 again v1 v2 v3 v4 l24 l23.length v7 l21.length l23 l21) none) none) none) none) none) none) none) none)) none)
 (
 k1 v1 v2 v3 v4 v5 v6 v5 ((v5.length : Nat) : Int) v7 v8 v9 v10)
noncomputable def lpRReadN_19 (rk : Nat) (k0 : Int → Int → Int → Int → Int → LI → Nat → Int → Int → LI → Int → Int → LI → LC → Int → Int → LI → Int → Int → Int → LI → LC → Int → Int → Int → LI → LC → Int → Int → Int → Int → Int → Nat → LC → Int → LI → LC → LC → OO) (k1 : Int → Int → Int → Int → LI → Nat → LI → Int → Int → Nat → LC → LC → OO) : Nat → Int → Int → Int → Int → LI → Nat → Int → Nat → LC → LC → OO
 | 0 => fun _ _ _ _ _ _ _ _ _ _ => none
 | n + 1 => lpRReadN_19s rk (lpRReadN_19 rk k0 k1 n) k0 k1
noncomputable def clpRReadN_19_0 (k : KT) : Int → Int → Int → Int → Int → LI → Nat → Int → Int → LI → Int → Int → LI → LC → Int → Int → LI → Int → Int → Int → LI → LC → Int → Int → Int → LI → LC → Int → Int → Int → Int → Int → Nat → LC → Int → LI → LC → LC → OO := fun y1 y2 y3 y4 y5 y6 y7 y8 y9 y10 y11 y12 y13 y14 y15 y16 y17 y18 y19 y20 y21 y22 y23 y24 y25 y26 y27 y28 y29 y30 y31 y32 y33 y34 y35 y36 y37 y38 => k .ret ⟨[(1, .cl (.int .i64 y1)), (4, .ptr 68 0 0), (5, .cl (.int .i64 0)), (6, .cl (.int .i64 y2)), (7, .cl (.int .i64 y3)), (8, .cl (.int .i64 y4)), (10, .cl (.int .i64 y5)), (11, .cl (.sli .u8 y6)), (12, .ptr 76 0 0), (13, .ref 77 0 y7 true 1), (14, .ptr 78 0 0), (15, .cl (.int .i64 y8)), (16, .cl (.int .i64 y9)), (74, .cl (.sli .u8 y10)), (75, .cl (.int .i64 y11)), (76, .cl (.bool true)), (77, .tup [.cl (.agg [.int .i64 y12, .sli .u8 y13, .slg 3 y14]), .cl (.int .i64 y15), .cl (.int .i64 y16)]), (78, .cl (.sli .u8 y17)), (79, .cl (.int .i64 y18)), (80, .cl (.int .i64 y19)), (81, .tup [.cl (.agg [.int .i64 y20, .sli .u8 y21, .slg 3 y22]), .cl (.int .i64 y23), .cl (.int .i64 y24)]), (82, .cl (.agg [.int .i64 y25, .sli .u8 y26, .slg 3 y27])), (83, .cl (.int .i64 y28)), (84, .cl (.int .i64 y29)), (85, .cl (.int .i64 y30)), (86, .cl (.bool true)), (87, .agg [.cl (.int .i64 0), .nils, .nils]), (88, .cl (.int .i64 y31))], [(68, ⟨.var [.cl (.int .i64 0), .nils, .nils], false⟩), (76, ⟨.var [.cl (.int .i64 y32), .nils, .ref 157 0 y33 true 3], false⟩), (77, ⟨.gen 1 y34, false⟩), (78, ⟨.var [.cl (.int .i64 y35), .cl (.sli .u8 y36), .cl (.slg 3 y37)], false⟩), (157, ⟨.gen 3 y38, false⟩)]⟩
noncomputable def clpRReadN_19_1 (k : KT) : Int → Int → Int → Int → LI → Nat → LI → Int → Int → Nat → LC → LC → OO := fun y1 y2 y3 y4 y5 y6 y7 y8 y9 y10 y11 y12 => k (.exit 0) ⟨[(1, .cl (.int .i64 y1)), (4, .ptr 68 0 0), (7, .cl (.int .i64 y2)), (8, .cl (.int .i64 y3)), (10, .cl (.int .i64 y4)), (11, .cl (.sli .u8 y5)), (12, .ptr 76 0 0), (13, .ref 77 0 y6 true 1), (74, .cl (.sli .u8 y7)), (75, .cl (.int .i64 y8)), (76, .cl (.bool false))], [(68, ⟨.var [.cl (.int .i64 0), .nils, .nils], false⟩), (76, ⟨.var [.cl (.int .i64 y9), .nils, .ref 157 0 y10 true 3], false⟩), (77, ⟨.gen 1 y11, false⟩), (157, ⟨.gen 3 y12, false⟩)]⟩
noncomputable def LRReadN_19 (rk : Nat) : St → (KT) → OO := fun σ k => match σ with
 | ⟨[(q1, .cl (.int .i64 v1)), (q2, .ptr q3 q4 q5), (q6, .cl (.int .i64 v2)), (q7, .cl (.int .i64 v3)), (q8, .cl (.int .i64 v4)), (q9, .cl (.sli .u8 v5)), (q10, .ptr q11 q12 q13), (q14, .ref q15 q16 v6 true q17)], [(q18, ⟨.var [.cl (.int .i64 q19), .nils, .nils], false⟩), (q20, ⟨.var [.cl (.int .i64 v7), .nils, .ref q21 q22 v8 true q23], false⟩), (q24, ⟨.gen q25 v9, false⟩), (q26, ⟨.gen q27 v10, false⟩)]⟩ => cond (Nat.beq q1 1 && Nat.beq q2 4 && Nat.beq q3 68 && Nat.beq q4 0 && Nat.beq q5 0 && Nat.beq q6 7 && Nat.beq q7 8 && Nat.beq q8 10 && Nat.beq q9 11 && Nat.beq q10 12 && Nat.beq q11 76 && Nat.beq q12 0 && Nat.beq q13 0 && Nat.beq q14 13 && Nat.beq q15 77 && Nat.beq q16 0 && Nat.beq q17 1 && Nat.beq q18 68 && decide (q19 = 0) && Nat.beq q20 76 && Nat.beq q21 157 && Nat.beq q22 0 && Nat.beq q23 3 && Nat.beq q24 77 && Nat.beq q25 1 && Nat.beq q26 157 && Nat.beq q27 3) (shut (lpRReadN_19 rk (clpRReadN_19_0 k) (clpRReadN_19_1 k) FUEL) v1 v2 v3 v4 v5 v6 v7 v8 v9 v10) none
 | _ => none
noncomputable def ERReadN (rk : Nat) : Env := {
 orc := fun g => cond (Nat.beq g 19) (SRBoxed) (cond (Nat.beq g 24) (SRReadN) (cond (Nat.beq g 36) (SRTagged) (cond (Nat.beq g 37) (SRLength) (cond (Nat.beq g 38) (SRFits) (cond (Nat.beq g 39) (SR4Sorted) (fun _ _ => Tree.fail))))))
 pre := fun g => cond (Nat.beq g 19) (preRBoxed) (cond (Nat.beq g 24) (preRRReadN (rk)) (cond (Nat.beq g 36) (preRTagged) (cond (Nat.beq g 37) (preRLength) (cond (Nat.beq g 38) (preRFits) (cond (Nat.beq g 39) (preR4Sorted) (fun _ _ => true))))))
 byref := fun _ => []
 keep := fun _ => false
 live := fun r => cond (Nat.beq r 19) ([1, 4, 7, 8, 10, 11, 12, 13]) ([])
 ren := fun r => cond (Nat.beq r 19) ([(164, 77)]) ([])
 vir := fun r => cond (Nat.beq r 19) ([(76, 2, 157, .gen 3 [])]) ([])
 glob := glDer
 nt := 116
 lp := fun r => cond (Nat.beq r 19) (some (LRReadN_19 rk)) (none)
}
noncomputable def blpRReadN_19 : Code := (Cd.fst (Cd.fst (Cd.fst (Cd.snd (Cd.snd (Cd.snd (Cd.snd (Cd.snd (Cd.snd (Cd.snd (Cd.snd (Cd.snd (Cd.snd (Cd.snd (Cd.snd (Tryd.f24.body.getD .skip))))))))))))))))
theorem lpRReadN_19_step (rk : Nat) (k : KT) (n : Nat) (v1 v2 v3 v4 : Int) (v5 : LI) (v6 : Nat) (v7 : Int) (v8 : Nat) (v9 v10 : LC) : iterK (n + 1) (codeK Tryd.prog (ERReadN rk) 40 blpRReadN_19) (head (ERReadN rk) 19) ⟨[(1, .cl (.int .i64 v1)), (4, .ptr 68 0 0), (7, .cl (.int .i64 v2)), (8, .cl (.int .i64 v3)), (10, .cl (.int .i64 v4)), (11, .cl (.sli .u8 v5)), (12, .ptr 76 0 0), (13, .ref 77 0 v6 true 1)], [(68, ⟨.var [.cl (.int .i64 0), .nils, .nils], false⟩), (76, ⟨.var [.cl (.int .i64 v7), .nils, .ref 157 0 v8 true 3], false⟩), (77, ⟨.gen 1 v9, false⟩), (157, ⟨.gen 3 v10, false⟩)]⟩ k = lpRReadN_19s rk (fun v1 v2 v3 v4 v5 v6 v7 v8 v9 v10 => iterK n (codeK Tryd.prog (ERReadN rk) 40 blpRReadN_19) (head (ERReadN rk) 19) ⟨[(1, .cl (.int .i64 v1)), (4, .ptr 68 0 0), (7, .cl (.int .i64 v2)), (8, .cl (.int .i64 v3)), (10, .cl (.int .i64 v4)), (11, .cl (.sli .u8 v5)), (12, .ptr 76 0 0), (13, .ref 77 0 v6 true 1)], [(68, ⟨.var [.cl (.int .i64 0), .nils, .nils], false⟩), (76, ⟨.var [.cl (.int .i64 v7), .nils, .ref 157 0 v8 true 3], false⟩), (77, ⟨.gen 1 v9, false⟩), (157, ⟨.gen 3 v10, false⟩)]⟩ k) (clpRReadN_19_0 k) (clpRReadN_19_1 k) v1 v2 v3 v4 v5 v6 v7 v8 v9 v10 := by kernel_rfl
theorem lpRReadN_19_eq (rk : Nat) (k : KT) : ∀ (n : Nat), ∀ (v1 v2 v3 v4 : Int) (v5 : LI) (v6 : Nat) (v7 : Int) (v8 : Nat) (v9 v10 : LC), iterK n (codeK Tryd.prog (ERReadN rk) 40 blpRReadN_19) (head (ERReadN rk) 19) ⟨[(1, .cl (.int .i64 v1)), (4, .ptr 68 0 0), (7, .cl (.int .i64 v2)), (8, .cl (.int .i64 v3)), (10, .cl (.int .i64 v4)), (11, .cl (.sli .u8 v5)), (12, .ptr 76 0 0), (13, .ref 77 0 v6 true 1)], [(68, ⟨.var [.cl (.int .i64 0), .nils, .nils], false⟩), (76, ⟨.var [.cl (.int .i64 v7), .nils, .ref 157 0 v8 true 3], false⟩), (77, ⟨.gen 1 v9, false⟩), (157, ⟨.gen 3 v10, false⟩)]⟩ k = lpRReadN_19 rk (clpRReadN_19_0 k) (clpRReadN_19_1 k) n v1 v2 v3 v4 v5 v6 v7 v8 v9 v10
  | 0 => by intros; rfl
  | n + 1 => by
    intros
    rw [lpRReadN_19_step]
    have ih := lpRReadN_19_eq rk k n
    simp only [lpRReadN_19, ih]
theorem LRReadN_19_ok (rk : Nat) : ∀ (σ : St) (k : KT) (r : Out), LRReadN_19 rk σ k = some r → ∃ n, iterK n (codeK Tryd.prog (ERReadN rk) 40 blpRReadN_19) (head (ERReadN rk) 19) σ k = some r := by
  intro σ k r h
  unfold LRReadN_19 at h
  split at h
  · replace h := cond_some h
    obtain ⟨hc, h⟩ := h
    simp only [Bool.and_eq_true, beq_prop, decide_eq_true_eq, Bool.not_eq_true'] at hc
    obtain ⟨⟨⟨⟨⟨⟨⟨⟨⟨⟨⟨⟨⟨⟨⟨⟨⟨⟨⟨⟨⟨⟨⟨⟨⟨⟨rfl, rfl⟩, rfl⟩, rfl⟩, rfl⟩, rfl⟩, rfl⟩, rfl⟩, rfl⟩, rfl⟩, rfl⟩, rfl⟩, rfl⟩, rfl⟩, rfl⟩, rfl⟩, rfl⟩, rfl⟩, rfl⟩, rfl⟩, rfl⟩, rfl⟩, rfl⟩, rfl⟩, rfl⟩, rfl⟩, rfl⟩ := hc
    rw [shut_eq] at h
    exact ⟨FUEL, (lpRReadN_19_eq rk k FUEL _ _ _ _ _ _ _ _ _ _ ).trans h⟩
  · cases h
theorem loopsRReadN (rk : Nat) : ∀ c, Tryd.f24.body = some c → LoopsOk Tryd.prog (ERReadN rk) 40 c := by
  intro c hc
  cases hc
  exact ⟨trivial, ⟨⟨trivial, ⟨⟨trivial, trivial, jn_none rfl⟩, trivial, jn_none rfl⟩, jn_none rfl⟩, ⟨⟨trivial, ⟨⟨trivial, trivial, jn_none rfl⟩, trivial, jn_none rfl⟩, jn_none rfl⟩, ⟨trivial, ⟨⟨trivial, ⟨⟨trivial, trivial, jn_none rfl⟩, trivial, jn_none rfl⟩, jn_none rfl⟩, ⟨trivial, ⟨⟨trivial, ⟨⟨trivial, trivial, jn_none rfl⟩, trivial, jn_none rfl⟩, jn_none rfl⟩, ⟨trivial, ⟨trivial, ⟨⟨trivial, ⟨⟨⟨trivial, ⟨⟨trivial, trivial, jn_none rfl⟩, trivial, jn_none rfl⟩, jn_none rfl⟩, ⟨trivial, trivial, jn_none rfl⟩, jn_none rfl⟩, trivial, jn_none rfl⟩, jn_none rfl⟩, ⟨trivial, ⟨trivial, ⟨⟨⟨⟨trivial, ⟨trivial, trivial, jn_none rfl⟩, jn_none rfl⟩, ⟨trivial, ⟨⟨trivial, ⟨⟨trivial, trivial, jn_none rfl⟩, trivial, jn_none rfl⟩, jn_none rfl⟩, ⟨trivial, ⟨trivial, trivial, jn_none rfl⟩, jn_none rfl⟩, jn_none rfl⟩, jn_none rfl⟩, jn_none rfl⟩, lp_some rfl (LRReadN_19_ok rk)⟩, ⟨⟨trivial, ⟨⟨trivial, trivial, jn_none rfl⟩, trivial, jn_none rfl⟩, jn_none rfl⟩, ⟨trivial, trivial, jn_none rfl⟩, jn_none rfl⟩, jn_none rfl⟩, jn_none rfl⟩, jn_none rfl⟩, jn_none rfl⟩, jn_none rfl⟩, jn_none rfl⟩, jn_none rfl⟩, jn_none rfl⟩, jn_none rfl⟩, jn_none rfl⟩, jn_none rfl⟩, jn_none rfl⟩, jn_none rfl⟩
noncomputable def gRReadN (rk : Nat) (b : LI) (deep : Int) : OO :=
 cond (decide (deep = 0)) (
 some (.ret [.cl (.agg [.int .i64 0, .sli .u8 [], .slg 3 []]), .cl (.int .i64 0), .cl (.int .i64 3)] []))
 (
 cond (decide (((b.length : Nat) : Int) = 0)) (
 some (.ret [.cl (.agg [.int .i64 0, .sli .u8 [], .slg 3 []]), .cl (.int .i64 0), .cl (.int .i64 1)] []))
 (
 cond (decide ((0 : Int) < ((b.length : Nat) : Int))) (
 Option.bind (b[0]?) fun (e1 : Int) =>
 let x2 : Int := IntKind.i64.wrap e1
 let r3 : Bool := derKnown x2
 cond (!r3) (
 some (.ret [.cl (.agg [.int .i64 0, .sli .u8 [], .slg 3 []]), .cl (.int .i64 0), .cl (.int .i64 4)] []))
 (
 cond (decide ((1 : Int) ≤ ((b.length : Nat) : Int))) (
 let l4 : LI := List.drop 1 b
 cond (bytesOk l4) (
 let r5 : Int := (derLength l4).1
 let r6 : Int := (derLength l4).2
 cond (decide (r6 = 0)) (
 some (.ret [.cl (.agg [.int .i64 0, .sli .u8 [], .slg 3 []]), .cl (.int .i64 0), .cl (.int .i64 1)] []))
 (
 let x7 : Int := IntKind.i64.wrap (((b.length : Nat) : Int) - 1)
 let x8 : Int := IntKind.i64.wrap (x7 - r6)
 cond (decide (x8 < r5)) (
 some (.ret [.cl (.agg [.int .i64 0, .sli .u8 [], .slg 3 []]), .cl (.int .i64 0), .cl (.int .i64 1)] []))
 (
 let x9 : Int := IntKind.i64.wrap ((1 : Int) + r6)
 let x10 : Int := IntKind.i64.wrap (x9 + r5)
 cond (decide ((0 : Int) ≤ x9)) (
 cond (decide (x9 ≤ x10)) (
 cond (decide (x10 ≤ ((b.length : Nat) : Int))) (
 let l11 : LI := List.drop (Int.toNat x9) (List.take (Int.toNat x10) b)
 let r12 : Bool := derBoxed x2
 cond (!r12) (
 cond (bytesOk l11) (
 let r13 : Bool := derFits x2 l11
 cond (!r13) (
 some (.ret [.cl (.agg [.int .i64 0, .sli .u8 [], .slg 3 []]), .cl (.int .i64 0), .cl (.int .i64 5)] []))
 (
 let x14 : Int := IntKind.i64.wrap (x9 + r5)
 some (.ret [.cl (.agg [.int .i64 x2, .sli .u8 l11, .slg 3 []]), .cl (.int .i64 x14), .cl (.int .i64 0)] []))) none)
 (
 shut (lpRReadN_19 rk
 (fun y15 y16 y17 y18 y19 y20 y21 y22 y23 y24 y25 y26 y27 y28 y29 y30 y31 y32 y33 y34 y35 y36 y37 y38 y39 y40 y41 y42 y43 y44 y45 y46 y47 y48 y49 y50 y51 y52 =>
 some (.ret [.cl (.agg [.int .i64 0, .sli .u8 [], .slg 3 []]), .cl (.int .i64 0), .cl (.int .i64 y16)] []))
 (fun y53 y54 y55 y56 y57 y58 y59 y60 y61 y62 y63 y64 =>
 cond (decide (y54 = 49)) (
 cond (rowsOk y63) (
 let r65 : Bool := rowsSorted y63
 cond (!r65) (
 some (.ret [.cl (.agg [.int .i64 0, .sli .u8 [], .slg 3 []]), .cl (.int .i64 0), .cl (.int .i64 6)] []))
 (
 let x66 : Int := IntKind.i64.wrap (y56 + y55)
 some (.ret [.cl (.agg [.int .i64 y61, .sli .u8 [], .slg 3 y64]), .cl (.int .i64 x66), .cl (.int .i64 0)] []))) none)
 (
 let x67 : Int := IntKind.i64.wrap (y56 + y55)
 some (.ret [.cl (.agg [.int .i64 y61, .sli .u8 [], .slg 3 y64]), .cl (.int .i64 x67), .cl (.int .i64 0)] [])))
 FUEL) deep x2 r5 x9 l11 0 x2 0 [] [])) none) none) none))) none) none)) none))
theorem gRReadN_eq (rk : Nat) (b : LI) (deep : Int) : bodyK Tryd.prog (ERReadN rk) 40 false Tryd.f24 [.cl (.sli .u8 b), .cl (.int .i64 deep)] [] = gRReadN rk b deep := by kernel_rfl

noncomputable def ERParse : Env := {
 orc := fun g => cond (Nat.beq g 24) (SRReadN) (fun _ _ => Tree.fail)
 pre := fun g => cond (Nat.beq g 24) (preRReadN) (fun _ _ => true)
 byref := fun _ => []
 keep := fun _ => false
 live := fun _ => []
 ren := fun _ => []
 glob := glDer
 nt := 27
 lp := fun _ => none
}
theorem loopsRParse : ∀ c, Tryd.f10.body = some c → LoopsOk Tryd.prog (ERParse) 40 c := by
  intro c hc
  cases hc
  exact ⟨trivial, ⟨⟨trivial, ⟨⟨trivial, trivial, jn_none rfl⟩, trivial, jn_none rfl⟩, jn_none rfl⟩, ⟨trivial, ⟨⟨trivial, ⟨⟨trivial, trivial, jn_none rfl⟩, trivial, jn_none rfl⟩, jn_none rfl⟩, ⟨⟨trivial, ⟨⟨trivial, trivial, jn_none rfl⟩, trivial, jn_none rfl⟩, jn_none rfl⟩, ⟨trivial, trivial, jn_none rfl⟩, jn_none rfl⟩, jn_none rfl⟩, jn_none rfl⟩, jn_none rfl⟩, jn_none rfl⟩
noncomputable def gRParse (b : LI) : OO :=
 cond (decide ((1048576 : Int) < ((b.length : Nat) : Int))) (
 some (.ret [.cl (.agg [.int .i64 0, .sli .u8 [], .slg 3 []]), .cl (.int .i64 2)] []))
 (
 cond (bytesOk b && deepOk 32) (
 let r1 : Int := (ndRead b 32).1.1
 let r2 : LI := (ndRead b 32).1.2.1
 let r3 : LC := (ndRead b 32).1.2.2
 let r4 : Int := (ndRead b 32).2.1
 let r5 : Int := (ndRead b 32).2.2
 cond (!decide (r5 = 0)) (
 some (.ret [.cl (.agg [.int .i64 0, .sli .u8 [], .slg 3 []]), .cl (.int .i64 r5)] []))
 (
 cond (decide (r4 < ((b.length : Nat) : Int))) (
 some (.ret [.cl (.agg [.int .i64 0, .sli .u8 [], .slg 3 []]), .cl (.int .i64 7)] []))
 (
 some (.ret [.cl (.agg [.int .i64 r1, .sli .u8 r2, .slg 3 r3]), .cl (.int .i64 0)] [])))) none)
theorem gRParse_eq (b : LI) : bodyK Tryd.prog (ERParse) 40 false Tryd.f10 [.cl (.sli .u8 b)] [] = gRParse b := by kernel_rfl

noncomputable def EDMust : Env := {
 orc := fun _ => fun _ _ => Tree.fail
 pre := fun _ => fun _ _ => true
 byref := fun _ => []
 keep := fun _ => false
 live := fun _ => []
 ren := fun _ => []
 glob := glDer
 nt := 9
 lp := fun _ => none
}
theorem loopsDMust : ∀ c, Tryd.f23.body = some c → LoopsOk Tryd.prog (EDMust) 40 c := by
  intro c hc
  cases hc
  exact ⟨trivial, ⟨trivial, trivial, jn_none rfl⟩, jn_none rfl⟩
noncomputable def gDMust_0 (e : Int) : OO :=
 some (.ret [] [])
theorem gDMust_0_eq (e : Int) : bodyK Tryd.prog (EDMust) 40 false Tryd.f23 [.cl (.bool true), .cl (.int .i64 e)] [] = gDMust_0 e := by kernel_rfl
noncomputable def gDMust_1 (e : Int) : OO :=
 some (.pan (.iface 47 (.agg [.int .i64 e])) [])
theorem gDMust_1_eq (e : Int) : bodyK Tryd.prog (EDMust) 40 false Tryd.f23 [.cl (.bool false), .cl (.int .i64 e)] [] = gDMust_1 e := by kernel_rfl

noncomputable def EDNext : Env := {
 orc := fun g => cond (Nat.beq g 23) (SDMust) (fun _ _ => Tree.fail)
 pre := fun g => cond (Nat.beq g 23) (preDMust) (fun _ _ => true)
 byref := fun _ => []
 keep := fun _ => false
 spl := fun g => cond (Nat.beq g 23) (some 0) (none)
 live := fun _ => []
 ren := fun _ => []
 glob := glDer
 nt := 27
 lp := fun _ => none
}
theorem loopsDNext : ∀ c, Tryd.f30.body = some c → LoopsOk Tryd.prog (EDNext) 40 c := by
  intro c hc
  cases hc
  exact ⟨trivial, ⟨trivial, ⟨trivial, ⟨trivial, ⟨trivial, trivial, jn_none rfl⟩, jn_none rfl⟩, jn_none rfl⟩, jn_none rfl⟩, jn_none rfl⟩
noncomputable def gDNext (l : LI) (d : Int) : OO :=
 cond (decide ((0 : Int) < ((l.length : Nat) : Int))) (
 cond (decide ((0 : Int) < ((l.length : Nat) : Int))) (
 Option.bind (l[0]?) fun (e1 : Int) =>
 let x2 : Int := IntKind.i64.wrap e1
 cond (decide ((1 : Int) ≤ ((l.length : Nat) : Int))) (
 let l3 : LI := List.drop 1 l
 some (.ret [.cl (.int .i64 x2)] [some ⟨.var [.cl (.sli .u8 l3), .cl (.int .i64 d)], false⟩])) none) none)
 (
 cond (true) (
 some (.pan (.iface 47 (.agg [.int .i64 1])) [some ⟨.var [.cl (.sli .u8 l), .cl (.int .i64 d)], false⟩]))
 (
 cond (decide ((0 : Int) < ((l.length : Nat) : Int))) (
 Option.bind (l[0]?) fun (e4 : Int) =>
 let x5 : Int := IntKind.i64.wrap e4
 cond (decide ((1 : Int) ≤ ((l.length : Nat) : Int))) (
 let l6 : LI := List.drop 1 l
 some (.ret [.cl (.int .i64 x5)] [some ⟨.var [.cl (.sli .u8 l6), .cl (.int .i64 d)], false⟩])) none) none))
theorem gDNext_eq (l : LI) (d : Int) : bodyK Tryd.prog (EDNext) 40 false Tryd.f30 [.ptr 0 0 0] [⟨.var [.cl (.sli .u8 l), .cl (.int .i64 d)], false⟩] = gDNext l d := by kernel_rfl

noncomputable def lpDLength_7s (again : Int → Int → Int → Int → LI → Int → OO) (k0 : Int → Int → Int → Int → Int → Int → LI → Int → OO) (k1 : Int → Int → Int → Int → LI → Int → OO) (v1 v2 v3 v4 : Int) (v5 : LI) (v6 : Int) : OO :=
 cond (decide (v4 < v3)) (
 let x4 : Int := IntKind.i64.wrap (v2 * 2 ^ 8)
 cond (bytesOk v5) (
 cond (v5.isEmpty) (
 k0 v1 v2 v3 v4 v2 x4 v5 v6)
 (
 let r5 : Int := v5.headD 0
 let r6 : LI := v5.tail
 let x7 : Int := IntKind.i64.wrap ((BitVec.ofInt 64 x4 ||| BitVec.ofInt 64 r5).toNat)
 let x8 : Int := IntKind.i64.wrap (v4 + 1)
 again v1 x7 v3 x8 r6 v6)) none)
 (
 k1 v1 v2 v3 v4 v5 v6)
noncomputable def lpDLength_7 (k0 : Int → Int → Int → Int → Int → Int → LI → Int → OO) (k1 : Int → Int → Int → Int → LI → Int → OO) : Nat → Int → Int → Int → Int → LI → Int → OO
 | 0 => fun _ _ _ _ _ _ => none
 | n + 1 => lpDLength_7s (lpDLength_7 k0 k1 n) k0 k1
noncomputable def clpDLength_7_0 (k : KT) : Int → Int → Int → Int → Int → Int → LI → Int → OO := fun y1 y2 y3 y4 y5 y6 y7 y8 => k (.pan (.iface 47 (.agg [.int .i64 1]))) ⟨[(0, .ptr 0 0 0), (3, .cl (.int .i64 y1)), (4, .cl (.int .i64 y2)), (18, .cl (.int .i64 y3)), (19, .cl (.int .i64 y4)), (20, .cl (.bool true)), (21, .cl (.int .i64 y5)), (22, .cl (.int .i64 y6)), (23, .ptr 0 0 0)], [(0, ⟨.var [.cl (.sli .u8 y7), .cl (.int .i64 y8)], false⟩)]⟩
noncomputable def clpDLength_7_1 (k : KT) : Int → Int → Int → Int → LI → Int → OO := fun y1 y2 y3 y4 y5 y6 => k (.exit 0) ⟨[(0, .ptr 0 0 0), (3, .cl (.int .i64 y1)), (4, .cl (.int .i64 y2)), (18, .cl (.int .i64 y3)), (19, .cl (.int .i64 y4)), (20, .cl (.bool false))], [(0, ⟨.var [.cl (.sli .u8 y5), .cl (.int .i64 y6)], false⟩)]⟩
noncomputable def LDLength_7 : St → (KT) → OO := fun σ k => match σ with
 | ⟨[(q1, .ptr q2 q3 q4), (q5, .cl (.int .i64 v1)), (q6, .cl (.int .i64 v2)), (q7, .cl (.int .i64 v3)), (q8, .cl (.int .i64 v4))], [(q9, ⟨.var [.cl (.sli .u8 v5), .cl (.int .i64 v6)], false⟩)]⟩ => cond (Nat.beq q1 0 && Nat.beq q2 0 && Nat.beq q3 0 && Nat.beq q4 0 && Nat.beq q5 3 && Nat.beq q6 4 && Nat.beq q7 18 && Nat.beq q8 19 && Nat.beq q9 0) (shut (lpDLength_7 (clpDLength_7_0 k) (clpDLength_7_1 k) FUEL) v1 v2 v3 v4 v5 v6) none
 | _ => none
noncomputable def EDLength : Env := {
 orc := fun g => cond (Nat.beq g 23) (SDMust) (cond (Nat.beq g 30) (SDNext) (cond (Nat.beq g 40) (SDLenSize) (fun _ _ => Tree.fail)))
 pre := fun g => cond (Nat.beq g 23) (preDMust) (cond (Nat.beq g 30) (preDNext) (cond (Nat.beq g 40) (preDLenSize) (fun _ _ => true)))
 byref := fun g => cond (Nat.beq g 30) ([0]) ([])
 keep := fun _ => false
 spl := fun g => cond (Nat.beq g 23) (some 0) (none)
 live := fun r => cond (Nat.beq r 7) ([0, 3, 4, 18, 19]) ([])
 ren := fun _ => []
 glob := glDer
 nt := 35
 lp := fun r => cond (Nat.beq r 7) (some (LDLength_7)) (none)
}
noncomputable def blpDLength_7 : Code := (Cd.fst (Cd.fst (Cd.snd (Cd.fst (Cd.snd (Cd.snd (Cd.snd (Cd.snd (Cd.snd (Tryd.f32.body.getD .skip))))))))))
theorem lpDLength_7_step (k : KT) (n : Nat) (v1 v2 v3 v4 : Int) (v5 : LI) (v6 : Int) : iterK (n + 1) (codeK Tryd.prog (EDLength) 40 blpDLength_7) (head (EDLength) 7) ⟨[(0, .ptr 0 0 0), (3, .cl (.int .i64 v1)), (4, .cl (.int .i64 v2)), (18, .cl (.int .i64 v3)), (19, .cl (.int .i64 v4))], [(0, ⟨.var [.cl (.sli .u8 v5), .cl (.int .i64 v6)], false⟩)]⟩ k = lpDLength_7s (fun v1 v2 v3 v4 v5 v6 => iterK n (codeK Tryd.prog (EDLength) 40 blpDLength_7) (head (EDLength) 7) ⟨[(0, .ptr 0 0 0), (3, .cl (.int .i64 v1)), (4, .cl (.int .i64 v2)), (18, .cl (.int .i64 v3)), (19, .cl (.int .i64 v4))], [(0, ⟨.var [.cl (.sli .u8 v5), .cl (.int .i64 v6)], false⟩)]⟩ k) (clpDLength_7_0 k) (clpDLength_7_1 k) v1 v2 v3 v4 v5 v6 := by kernel_rfl
theorem lpDLength_7_eq (k : KT) : ∀ (n : Nat), ∀ (v1 v2 v3 v4 : Int) (v5 : LI) (v6 : Int), iterK n (codeK Tryd.prog (EDLength) 40 blpDLength_7) (head (EDLength) 7) ⟨[(0, .ptr 0 0 0), (3, .cl (.int .i64 v1)), (4, .cl (.int .i64 v2)), (18, .cl (.int .i64 v3)), (19, .cl (.int .i64 v4))], [(0, ⟨.var [.cl (.sli .u8 v5), .cl (.int .i64 v6)], false⟩)]⟩ k = lpDLength_7 (clpDLength_7_0 k) (clpDLength_7_1 k) n v1 v2 v3 v4 v5 v6
  | 0 => by intros; rfl
  | n + 1 => by
    intros
    rw [lpDLength_7_step]
    have ih := lpDLength_7_eq k n
    simp only [lpDLength_7, ih]
theorem LDLength_7_ok : ∀ (σ : St) (k : KT) (r : Out), LDLength_7 σ k = some r → ∃ n, iterK n (codeK Tryd.prog (EDLength) 40 blpDLength_7) (head (EDLength) 7) σ k = some r := by
  intro σ k r h
  unfold LDLength_7 at h
  split at h
  · replace h := cond_some h
    obtain ⟨hc, h⟩ := h
    simp only [Bool.and_eq_true, beq_prop, decide_eq_true_eq, Bool.not_eq_true'] at hc
    obtain ⟨⟨⟨⟨⟨⟨⟨⟨rfl, rfl⟩, rfl⟩, rfl⟩, rfl⟩, rfl⟩, rfl⟩, rfl⟩, rfl⟩ := hc
    rw [shut_eq] at h
    exact ⟨FUEL, (lpDLength_7_eq k FUEL _ _ _ _ _ _ ).trans h⟩
  · cases h
theorem loopsDLength : ∀ c, Tryd.f32.body = some c → LoopsOk Tryd.prog (EDLength) 40 c := by
  intro c hc
  cases hc
  exact ⟨trivial, ⟨trivial, ⟨⟨trivial, ⟨⟨trivial, trivial, jn_none rfl⟩, trivial, jn_none rfl⟩, jn_none rfl⟩, ⟨trivial, ⟨trivial, ⟨⟨trivial, ⟨⟨trivial, ⟨⟨trivial, trivial, jn_none rfl⟩, ⟨trivial, trivial, jn_none rfl⟩, jn_none rfl⟩, jn_none rfl⟩, lp_some rfl (LDLength_7_ok)⟩, jn_none rfl⟩, ⟨trivial, ⟨trivial, trivial, jn_none rfl⟩, jn_none rfl⟩, jn_none rfl⟩, jn_none rfl⟩, jn_none rfl⟩, jn_none rfl⟩, jn_none rfl⟩, jn_none rfl⟩
noncomputable def gDLength (l : LI) (d : Int) : OO :=
 cond (bytesOk l) (
 cond (l.isEmpty) (
 some (.pan (.iface 47 (.agg [.int .i64 1])) [some ⟨.var [.cl (.sli .u8 l), .cl (.int .i64 d)], false⟩]))
 (
 let r1 : Int := l.headD 0
 let r2 : LI := l.tail
 cond (decide (r1 < 128)) (
 some (.ret [.cl (.int .i64 r1)] [some ⟨.var [.cl (.sli .u8 r2), .cl (.int .i64 d)], false⟩]))
 (
 cond (decide ((128 : Int) < r1)) (
 cond (decide (r1 ≤ 131)) (
 let x3 : Int := IntKind.i64.wrap (r1 - 128)
 shut (lpDLength_7
 (fun y4 y5 y6 y7 y8 y9 y10 y11 =>
 some (.pan (.iface 47 (.agg [.int .i64 1])) [some ⟨.var [.cl (.sli .u8 y10), .cl (.int .i64 y11)], false⟩]))
 (fun y12 y13 y14 y15 y16 y17 =>
 let r18 : Int := derLenSize y13
 let x19 : Int := IntKind.i64.wrap ((1 : Int) + y12)
 let x20 : Int := IntKind.i64.wrap (x19 - 128)
 cond (decide (r18 = x20)) (
 some (.ret [.cl (.int .i64 y13)] [some ⟨.var [.cl (.sli .u8 y16), .cl (.int .i64 y17)], false⟩]))
 (
 cond (true) (
 some (.pan (.iface 47 (.agg [.int .i64 1])) [some ⟨.var [.cl (.sli .u8 y16), .cl (.int .i64 y17)], false⟩]))
 (
 some (.ret [.cl (.int .i64 y13)] [some ⟨.var [.cl (.sli .u8 y16), .cl (.int .i64 y17)], false⟩]))))
 FUEL) r1 0 x3 0 r2 d)
 (
 cond (true) (
 some (.pan (.iface 47 (.agg [.int .i64 1])) [some ⟨.var [.cl (.sli .u8 r2), .cl (.int .i64 d)], false⟩]))
 (
 let x21 : Int := IntKind.i64.wrap (r1 - 128)
 shut (lpDLength_7
 (fun y22 y23 y24 y25 y26 y27 y28 y29 =>
 some (.pan (.iface 47 (.agg [.int .i64 1])) [some ⟨.var [.cl (.sli .u8 y28), .cl (.int .i64 y29)], false⟩]))
 (fun y30 y31 y32 y33 y34 y35 =>
 let r36 : Int := derLenSize y31
 let x37 : Int := IntKind.i64.wrap ((1 : Int) + y30)
 let x38 : Int := IntKind.i64.wrap (x37 - 128)
 cond (decide (r36 = x38)) (
 some (.ret [.cl (.int .i64 y31)] [some ⟨.var [.cl (.sli .u8 y34), .cl (.int .i64 y35)], false⟩]))
 (
 cond (true) (
 some (.pan (.iface 47 (.agg [.int .i64 1])) [some ⟨.var [.cl (.sli .u8 y34), .cl (.int .i64 y35)], false⟩]))
 (
 some (.ret [.cl (.int .i64 y31)] [some ⟨.var [.cl (.sli .u8 y34), .cl (.int .i64 y35)], false⟩]))))
 FUEL) r1 0 x21 0 r2 d)))
 (
 cond (true) (
 some (.pan (.iface 47 (.agg [.int .i64 1])) [some ⟨.var [.cl (.sli .u8 r2), .cl (.int .i64 d)], false⟩]))
 (
 let x39 : Int := IntKind.i64.wrap (r1 - 128)
 shut (lpDLength_7
 (fun y40 y41 y42 y43 y44 y45 y46 y47 =>
 some (.pan (.iface 47 (.agg [.int .i64 1])) [some ⟨.var [.cl (.sli .u8 y46), .cl (.int .i64 y47)], false⟩]))
 (fun y48 y49 y50 y51 y52 y53 =>
 let r54 : Int := derLenSize y49
 let x55 : Int := IntKind.i64.wrap ((1 : Int) + y48)
 let x56 : Int := IntKind.i64.wrap (x55 - 128)
 cond (decide (r54 = x56)) (
 some (.ret [.cl (.int .i64 y49)] [some ⟨.var [.cl (.sli .u8 y52), .cl (.int .i64 y53)], false⟩]))
 (
 cond (true) (
 some (.pan (.iface 47 (.agg [.int .i64 1])) [some ⟨.var [.cl (.sli .u8 y52), .cl (.int .i64 y53)], false⟩]))
 (
 some (.ret [.cl (.int .i64 y49)] [some ⟨.var [.cl (.sli .u8 y52), .cl (.int .i64 y53)], false⟩]))))
 FUEL) r1 0 x39 0 r2 d))))) none
theorem gDLength_eq (l : LI) (d : Int) : bodyK Tryd.prog (EDLength) 40 false Tryd.f32 [.ptr 0 0 0] [⟨.var [.cl (.sli .u8 l), .cl (.int .i64 d)], false⟩] = gDLength l d := by kernel_rfl

noncomputable def EDValue (rk : Nat) : Env := {
 orc := fun g => cond (Nat.beq g 18) (SDBoxed) (cond (Nat.beq g 23) (SDMust) (cond (Nat.beq g 30) (SDNext) (cond (Nat.beq g 31) (SDKnown) (cond (Nat.beq g 32) (SDLength) (cond (Nat.beq g 33) (SDParts) (cond (Nat.beq g 34) (SDFits) (cond (Nat.beq g 35) (SSClone) (fun _ _ => Tree.fail))))))))
 pre := fun g => cond (Nat.beq g 18) (preDBoxed) (cond (Nat.beq g 23) (preDMust) (cond (Nat.beq g 30) (preDNext) (cond (Nat.beq g 31) (preDKnown) (cond (Nat.beq g 32) (preDLength) (cond (Nat.beq g 33) (preRDParts (rk)) (cond (Nat.beq g 34) (preDFits) (cond (Nat.beq g 35) (preSClone) (fun _ _ => true))))))))
 byref := fun g => cond (Nat.beq g 30) ([0]) (cond (Nat.beq g 32) ([0]) (cond (Nat.beq g 33) ([0]) ([])))
 keep := fun _ => false
 spl := fun g => cond (Nat.beq g 23) (some 0) (none)
 live := fun _ => []
 ren := fun _ => []
 glob := glDer
 nt := 56
 lp := fun _ => none
}
theorem loopsDValue (rk : Nat) : ∀ c, Tryd.f22.body = some c → LoopsOk Tryd.prog (EDValue rk) 40 c := by
  intro c hc
  cases hc
  exact ⟨trivial, ⟨trivial, ⟨trivial, ⟨trivial, ⟨trivial, ⟨trivial, ⟨trivial, ⟨trivial, ⟨⟨trivial, ⟨⟨trivial, trivial, jn_none rfl⟩, trivial, jn_none rfl⟩, jn_none rfl⟩, ⟨trivial, ⟨trivial, trivial, jn_none rfl⟩, jn_none rfl⟩, jn_none rfl⟩, jn_none rfl⟩, jn_none rfl⟩, jn_none rfl⟩, jn_none rfl⟩, jn_none rfl⟩, jn_none rfl⟩, jn_none rfl⟩, jn_none rfl⟩
noncomputable def gDValue (rk : Nat) (l : LI) (d : Int) : OO :=
 cond (decide ((0 : Int) < d)) (
 cond (bytesOk l) (
 cond (l.isEmpty) (
 some (.pan (.iface 47 (.agg [.int .i64 1])) [some ⟨.var [.cl (.sli .u8 l), .cl (.int .i64 d)], false⟩]))
 (
 let r1 : Int := l.headD 0
 let r2 : LI := l.tail
 let r3 : Bool := derKnown r1
 cond (r3) (
 cond (bytesOk r2) (
 cond (!(rdLenOk r2)) (
 let r4 : LI := rdLenRest r2
 some (.pan (.iface 47 (.agg [.int .i64 1])) [some ⟨.var [.cl (.sli .u8 r4), .cl (.int .i64 d)], false⟩]))
 (
 let r5 : Int := (rdLength r2).1
 let r6 : LI := (rdLength r2).2
 cond (decide (r5 ≤ ((r6.length : Nat) : Int))) (
 cond (decide ((0 : Int) ≤ r5)) (
 cond (decide (r5 ≤ ((r6.length : Nat) : Int))) (
 let l7 : LI := List.take (Int.toNat r5) r6
 cond (decide ((0 : Int) ≤ r5)) (
 cond (decide (r5 ≤ ((r6.length : Nat) : Int))) (
 let l8 : LI := List.drop (Int.toNat r5) r6
 let r9 : Bool := derBoxed r1
 cond (r9) (
 cond (bytesOk l7 && (deepOk d && decide (0 < d ∧ d.toNat < rk + 1))) (
 cond (!(decide ((rdParts r1 l7 d).1 = 0))) (
 let r10 : Int := (rdParts r1 l7 d).1
 some (.pan (.iface 47 (.agg [.int .i64 r10])) [some ⟨.var [.cl (.sli .u8 l8), .cl (.int .i64 d)], false⟩]))
 (
 let r11 : Int := (rdParts r1 l7 d).2.1
 let r12 : LI := (rdParts r1 l7 d).2.2.1
 let r13 : LC := (rdParts r1 l7 d).2.2.2
 some (.ret [.cl (.agg [.int .i64 r11, .sli .u8 r12, .slg 3 r13])] [some ⟨.var [.cl (.sli .u8 l8), .cl (.int .i64 d)], false⟩]))) none)
 (
 cond (bytesOk l7) (
 let r14 : Bool := derFits r1 l7
 cond (r14) (
 cond (lenOk l7) (
 some (.ret [.cl (.agg [.int .i64 r1, .sli .u8 l7, .slg 3 []])] [some ⟨.var [.cl (.sli .u8 l8), .cl (.int .i64 d)], false⟩])) none)
 (
 cond (true) (
 some (.pan (.iface 47 (.agg [.int .i64 5])) [some ⟨.var [.cl (.sli .u8 l8), .cl (.int .i64 d)], false⟩]))
 (
 cond (lenOk l7) (
 some (.ret [.cl (.agg [.int .i64 r1, .sli .u8 l7, .slg 3 []])] [some ⟨.var [.cl (.sli .u8 l8), .cl (.int .i64 d)], false⟩])) none))) none)) none) none) none) none)
 (
 cond (true) (
 some (.pan (.iface 47 (.agg [.int .i64 1])) [some ⟨.var [.cl (.sli .u8 r6), .cl (.int .i64 d)], false⟩]))
 (
 cond (decide ((0 : Int) ≤ r5)) (
 cond (decide (r5 ≤ ((r6.length : Nat) : Int))) (
 let l15 : LI := List.take (Int.toNat r5) r6
 cond (decide ((0 : Int) ≤ r5)) (
 cond (decide (r5 ≤ ((r6.length : Nat) : Int))) (
 let l16 : LI := List.drop (Int.toNat r5) r6
 let r17 : Bool := derBoxed r1
 cond (r17) (
 cond (bytesOk l15 && (deepOk d && decide (0 < d ∧ d.toNat < rk + 1))) (
 cond (!(decide ((rdParts r1 l15 d).1 = 0))) (
 let r18 : Int := (rdParts r1 l15 d).1
 some (.pan (.iface 47 (.agg [.int .i64 r18])) [some ⟨.var [.cl (.sli .u8 l16), .cl (.int .i64 d)], false⟩]))
 (
 let r19 : Int := (rdParts r1 l15 d).2.1
 let r20 : LI := (rdParts r1 l15 d).2.2.1
 let r21 : LC := (rdParts r1 l15 d).2.2.2
 some (.ret [.cl (.agg [.int .i64 r19, .sli .u8 r20, .slg 3 r21])] [some ⟨.var [.cl (.sli .u8 l16), .cl (.int .i64 d)], false⟩]))) none)
 (
 cond (bytesOk l15) (
 let r22 : Bool := derFits r1 l15
 cond (r22) (
 cond (lenOk l15) (
 some (.ret [.cl (.agg [.int .i64 r1, .sli .u8 l15, .slg 3 []])] [some ⟨.var [.cl (.sli .u8 l16), .cl (.int .i64 d)], false⟩])) none)
 (
 cond (true) (
 some (.pan (.iface 47 (.agg [.int .i64 5])) [some ⟨.var [.cl (.sli .u8 l16), .cl (.int .i64 d)], false⟩]))
 (
 cond (lenOk l15) (
 some (.ret [.cl (.agg [.int .i64 r1, .sli .u8 l15, .slg 3 []])] [some ⟨.var [.cl (.sli .u8 l16), .cl (.int .i64 d)], false⟩])) none))) none)) none) none) none) none)))) none)
 (
 cond (true) (
 some (.pan (.iface 47 (.agg [.int .i64 4])) [some ⟨.var [.cl (.sli .u8 r2), .cl (.int .i64 d)], false⟩]))
 (
 cond (bytesOk r2) (
 cond (!(rdLenOk r2)) (
 let r23 : LI := rdLenRest r2
 some (.pan (.iface 47 (.agg [.int .i64 1])) [some ⟨.var [.cl (.sli .u8 r23), .cl (.int .i64 d)], false⟩]))
 (
 let r24 : Int := (rdLength r2).1
 let r25 : LI := (rdLength r2).2
 cond (decide (r24 ≤ ((r25.length : Nat) : Int))) (
 cond (decide ((0 : Int) ≤ r24)) (
 cond (decide (r24 ≤ ((r25.length : Nat) : Int))) (
 let l26 : LI := List.take (Int.toNat r24) r25
 cond (decide ((0 : Int) ≤ r24)) (
 cond (decide (r24 ≤ ((r25.length : Nat) : Int))) (
 let l27 : LI := List.drop (Int.toNat r24) r25
 let r28 : Bool := derBoxed r1
 cond (r28) (
 cond (bytesOk l26 && (deepOk d && decide (0 < d ∧ d.toNat < rk + 1))) (
 cond (!(decide ((rdParts r1 l26 d).1 = 0))) (
 let r29 : Int := (rdParts r1 l26 d).1
 some (.pan (.iface 47 (.agg [.int .i64 r29])) [some ⟨.var [.cl (.sli .u8 l27), .cl (.int .i64 d)], false⟩]))
 (
 let r30 : Int := (rdParts r1 l26 d).2.1
 let r31 : LI := (rdParts r1 l26 d).2.2.1
 let r32 : LC := (rdParts r1 l26 d).2.2.2
 some (.ret [.cl (.agg [.int .i64 r30, .sli .u8 r31, .slg 3 r32])] [some ⟨.var [.cl (.sli .u8 l27), .cl (.int .i64 d)], false⟩]))) none)
 (
 cond (bytesOk l26) (
 let r33 : Bool := derFits r1 l26
 cond (r33) (
 cond (lenOk l26) (
 some (.ret [.cl (.agg [.int .i64 r1, .sli .u8 l26, .slg 3 []])] [some ⟨.var [.cl (.sli .u8 l27), .cl (.int .i64 d)], false⟩])) none)
 (
 cond (true) (
 some (.pan (.iface 47 (.agg [.int .i64 5])) [some ⟨.var [.cl (.sli .u8 l27), .cl (.int .i64 d)], false⟩]))
 (
 cond (lenOk l26) (
 some (.ret [.cl (.agg [.int .i64 r1, .sli .u8 l26, .slg 3 []])] [some ⟨.var [.cl (.sli .u8 l27), .cl (.int .i64 d)], false⟩])) none))) none)) none) none) none) none)
 (
 cond (true) (
 some (.pan (.iface 47 (.agg [.int .i64 1])) [some ⟨.var [.cl (.sli .u8 r25), .cl (.int .i64 d)], false⟩]))
 (
 cond (decide ((0 : Int) ≤ r24)) (
 cond (decide (r24 ≤ ((r25.length : Nat) : Int))) (
 let l34 : LI := List.take (Int.toNat r24) r25
 cond (decide ((0 : Int) ≤ r24)) (
 cond (decide (r24 ≤ ((r25.length : Nat) : Int))) (
 let l35 : LI := List.drop (Int.toNat r24) r25
 let r36 : Bool := derBoxed r1
 cond (r36) (
 cond (bytesOk l34 && (deepOk d && decide (0 < d ∧ d.toNat < rk + 1))) (
 cond (!(decide ((rdParts r1 l34 d).1 = 0))) (
 let r37 : Int := (rdParts r1 l34 d).1
 some (.pan (.iface 47 (.agg [.int .i64 r37])) [some ⟨.var [.cl (.sli .u8 l35), .cl (.int .i64 d)], false⟩]))
 (
 let r38 : Int := (rdParts r1 l34 d).2.1
 let r39 : LI := (rdParts r1 l34 d).2.2.1
 let r40 : LC := (rdParts r1 l34 d).2.2.2
 some (.ret [.cl (.agg [.int .i64 r38, .sli .u8 r39, .slg 3 r40])] [some ⟨.var [.cl (.sli .u8 l35), .cl (.int .i64 d)], false⟩]))) none)
 (
 cond (bytesOk l34) (
 let r41 : Bool := derFits r1 l34
 cond (r41) (
 cond (lenOk l34) (
 some (.ret [.cl (.agg [.int .i64 r1, .sli .u8 l34, .slg 3 []])] [some ⟨.var [.cl (.sli .u8 l35), .cl (.int .i64 d)], false⟩])) none)
 (
 cond (true) (
 some (.pan (.iface 47 (.agg [.int .i64 5])) [some ⟨.var [.cl (.sli .u8 l35), .cl (.int .i64 d)], false⟩]))
 (
 cond (lenOk l34) (
 some (.ret [.cl (.agg [.int .i64 r1, .sli .u8 l34, .slg 3 []])] [some ⟨.var [.cl (.sli .u8 l35), .cl (.int .i64 d)], false⟩])) none))) none)) none) none) none) none)))) none)))) none)
 (
 cond (true) (
 some (.pan (.iface 47 (.agg [.int .i64 3])) [some ⟨.var [.cl (.sli .u8 l), .cl (.int .i64 d)], false⟩]))
 (
 cond (bytesOk l) (
 cond (l.isEmpty) (
 some (.pan (.iface 47 (.agg [.int .i64 1])) [some ⟨.var [.cl (.sli .u8 l), .cl (.int .i64 d)], false⟩]))
 (
 let r42 : Int := l.headD 0
 let r43 : LI := l.tail
 let r44 : Bool := derKnown r42
 cond (r44) (
 cond (bytesOk r43) (
 cond (!(rdLenOk r43)) (
 let r45 : LI := rdLenRest r43
 some (.pan (.iface 47 (.agg [.int .i64 1])) [some ⟨.var [.cl (.sli .u8 r45), .cl (.int .i64 d)], false⟩]))
 (
 let r46 : Int := (rdLength r43).1
 let r47 : LI := (rdLength r43).2
 cond (decide (r46 ≤ ((r47.length : Nat) : Int))) (
 cond (decide ((0 : Int) ≤ r46)) (
 cond (decide (r46 ≤ ((r47.length : Nat) : Int))) (
 let l48 : LI := List.take (Int.toNat r46) r47
 cond (decide ((0 : Int) ≤ r46)) (
 cond (decide (r46 ≤ ((r47.length : Nat) : Int))) (
 let l49 : LI := List.drop (Int.toNat r46) r47
 let r50 : Bool := derBoxed r42
 cond (r50) (
 cond (bytesOk l48 && (deepOk d && decide (0 < d ∧ d.toNat < rk + 1))) (
 cond (!(decide ((rdParts r42 l48 d).1 = 0))) (
 let r51 : Int := (rdParts r42 l48 d).1
 some (.pan (.iface 47 (.agg [.int .i64 r51])) [some ⟨.var [.cl (.sli .u8 l49), .cl (.int .i64 d)], false⟩]))
 (
 let r52 : Int := (rdParts r42 l48 d).2.1
 let r53 : LI := (rdParts r42 l48 d).2.2.1
 let r54 : LC := (rdParts r42 l48 d).2.2.2
 some (.ret [.cl (.agg [.int .i64 r52, .sli .u8 r53, .slg 3 r54])] [some ⟨.var [.cl (.sli .u8 l49), .cl (.int .i64 d)], false⟩]))) none)
 (
 cond (bytesOk l48) (
 let r55 : Bool := derFits r42 l48
 cond (r55) (
 cond (lenOk l48) (
 some (.ret [.cl (.agg [.int .i64 r42, .sli .u8 l48, .slg 3 []])] [some ⟨.var [.cl (.sli .u8 l49), .cl (.int .i64 d)], false⟩])) none)
 (
 cond (true) (
 some (.pan (.iface 47 (.agg [.int .i64 5])) [some ⟨.var [.cl (.sli .u8 l49), .cl (.int .i64 d)], false⟩]))
 (
 cond (lenOk l48) (
 some (.ret [.cl (.agg [.int .i64 r42, .sli .u8 l48, .slg 3 []])] [some ⟨.var [.cl (.sli .u8 l49), .cl (.int .i64 d)], false⟩])) none))) none)) none) none) none) none)
 (
 cond (true) (
 some (.pan (.iface 47 (.agg [.int .i64 1])) [some ⟨.var [.cl (.sli .u8 r47), .cl (.int .i64 d)], false⟩]))
 (
 cond (decide ((0 : Int) ≤ r46)) (
 cond (decide (r46 ≤ ((r47.length : Nat) : Int))) (
 let l56 : LI := List.take (Int.toNat r46) r47
 cond (decide ((0 : Int) ≤ r46)) (
 cond (decide (r46 ≤ ((r47.length : Nat) : Int))) (
 let l57 : LI := List.drop (Int.toNat r46) r47
 let r58 : Bool := derBoxed r42
 cond (r58) (
 cond (bytesOk l56 && (deepOk d && decide (0 < d ∧ d.toNat < rk + 1))) (
 cond (!(decide ((rdParts r42 l56 d).1 = 0))) (
 let r59 : Int := (rdParts r42 l56 d).1
 some (.pan (.iface 47 (.agg [.int .i64 r59])) [some ⟨.var [.cl (.sli .u8 l57), .cl (.int .i64 d)], false⟩]))
 (
 let r60 : Int := (rdParts r42 l56 d).2.1
 let r61 : LI := (rdParts r42 l56 d).2.2.1
 let r62 : LC := (rdParts r42 l56 d).2.2.2
 some (.ret [.cl (.agg [.int .i64 r60, .sli .u8 r61, .slg 3 r62])] [some ⟨.var [.cl (.sli .u8 l57), .cl (.int .i64 d)], false⟩]))) none)
 (
 cond (bytesOk l56) (
 let r63 : Bool := derFits r42 l56
 cond (r63) (
 cond (lenOk l56) (
 some (.ret [.cl (.agg [.int .i64 r42, .sli .u8 l56, .slg 3 []])] [some ⟨.var [.cl (.sli .u8 l57), .cl (.int .i64 d)], false⟩])) none)
 (
 cond (true) (
 some (.pan (.iface 47 (.agg [.int .i64 5])) [some ⟨.var [.cl (.sli .u8 l57), .cl (.int .i64 d)], false⟩]))
 (
 cond (lenOk l56) (
 some (.ret [.cl (.agg [.int .i64 r42, .sli .u8 l56, .slg 3 []])] [some ⟨.var [.cl (.sli .u8 l57), .cl (.int .i64 d)], false⟩])) none))) none)) none) none) none) none)))) none)
 (
 cond (true) (
 some (.pan (.iface 47 (.agg [.int .i64 4])) [some ⟨.var [.cl (.sli .u8 r43), .cl (.int .i64 d)], false⟩]))
 (
 cond (bytesOk r43) (
 cond (!(rdLenOk r43)) (
 let r64 : LI := rdLenRest r43
 some (.pan (.iface 47 (.agg [.int .i64 1])) [some ⟨.var [.cl (.sli .u8 r64), .cl (.int .i64 d)], false⟩]))
 (
 let r65 : Int := (rdLength r43).1
 let r66 : LI := (rdLength r43).2
 cond (decide (r65 ≤ ((r66.length : Nat) : Int))) (
 cond (decide ((0 : Int) ≤ r65)) (
 cond (decide (r65 ≤ ((r66.length : Nat) : Int))) (
 let l67 : LI := List.take (Int.toNat r65) r66
 cond (decide ((0 : Int) ≤ r65)) (
 cond (decide (r65 ≤ ((r66.length : Nat) : Int))) (
 let l68 : LI := List.drop (Int.toNat r65) r66
 let r69 : Bool := derBoxed r42
 cond (r69) (
 cond (bytesOk l67 && (deepOk d && decide (0 < d ∧ d.toNat < rk + 1))) (
 cond (!(decide ((rdParts r42 l67 d).1 = 0))) (
 let r70 : Int := (rdParts r42 l67 d).1
 some (.pan (.iface 47 (.agg [.int .i64 r70])) [some ⟨.var [.cl (.sli .u8 l68), .cl (.int .i64 d)], false⟩]))
 (
 let r71 : Int := (rdParts r42 l67 d).2.1
 let r72 : LI := (rdParts r42 l67 d).2.2.1
 let r73 : LC := (rdParts r42 l67 d).2.2.2
 some (.ret [.cl (.agg [.int .i64 r71, .sli .u8 r72, .slg 3 r73])] [some ⟨.var [.cl (.sli .u8 l68), .cl (.int .i64 d)], false⟩]))) none)
 (
 cond (bytesOk l67) (
 let r74 : Bool := derFits r42 l67
 cond (r74) (
 cond (lenOk l67) (
 some (.ret [.cl (.agg [.int .i64 r42, .sli .u8 l67, .slg 3 []])] [some ⟨.var [.cl (.sli .u8 l68), .cl (.int .i64 d)], false⟩])) none)
 (
 cond (true) (
 some (.pan (.iface 47 (.agg [.int .i64 5])) [some ⟨.var [.cl (.sli .u8 l68), .cl (.int .i64 d)], false⟩]))
 (
 cond (lenOk l67) (
 some (.ret [.cl (.agg [.int .i64 r42, .sli .u8 l67, .slg 3 []])] [some ⟨.var [.cl (.sli .u8 l68), .cl (.int .i64 d)], false⟩])) none))) none)) none) none) none) none)
 (
 cond (true) (
 some (.pan (.iface 47 (.agg [.int .i64 1])) [some ⟨.var [.cl (.sli .u8 r66), .cl (.int .i64 d)], false⟩]))
 (
 cond (decide ((0 : Int) ≤ r65)) (
 cond (decide (r65 ≤ ((r66.length : Nat) : Int))) (
 let l75 : LI := List.take (Int.toNat r65) r66
 cond (decide ((0 : Int) ≤ r65)) (
 cond (decide (r65 ≤ ((r66.length : Nat) : Int))) (
 let l76 : LI := List.drop (Int.toNat r65) r66
 let r77 : Bool := derBoxed r42
 cond (r77) (
 cond (bytesOk l75 && (deepOk d && decide (0 < d ∧ d.toNat < rk + 1))) (
 cond (!(decide ((rdParts r42 l75 d).1 = 0))) (
 let r78 : Int := (rdParts r42 l75 d).1
 some (.pan (.iface 47 (.agg [.int .i64 r78])) [some ⟨.var [.cl (.sli .u8 l76), .cl (.int .i64 d)], false⟩]))
 (
 let r79 : Int := (rdParts r42 l75 d).2.1
 let r80 : LI := (rdParts r42 l75 d).2.2.1
 let r81 : LC := (rdParts r42 l75 d).2.2.2
 some (.ret [.cl (.agg [.int .i64 r79, .sli .u8 r80, .slg 3 r81])] [some ⟨.var [.cl (.sli .u8 l76), .cl (.int .i64 d)], false⟩]))) none)
 (
 cond (bytesOk l75) (
 let r82 : Bool := derFits r42 l75
 cond (r82) (
 cond (lenOk l75) (
 some (.ret [.cl (.agg [.int .i64 r42, .sli .u8 l75, .slg 3 []])] [some ⟨.var [.cl (.sli .u8 l76), .cl (.int .i64 d)], false⟩])) none)
 (
 cond (true) (
 some (.pan (.iface 47 (.agg [.int .i64 5])) [some ⟨.var [.cl (.sli .u8 l76), .cl (.int .i64 d)], false⟩]))
 (
 cond (lenOk l75) (
 some (.ret [.cl (.agg [.int .i64 r42, .sli .u8 l75, .slg 3 []])] [some ⟨.var [.cl (.sli .u8 l76), .cl (.int .i64 d)], false⟩])) none))) none)) none) none) none) none)))) none)))) none))
theorem gDValue_eq (rk : Nat) (l : LI) (d : Int) : bodyK Tryd.prog (EDValue rk) 40 false Tryd.f22 [.ptr 0 0 0] [⟨.var [.cl (.sli .u8 l), .cl (.int .i64 d)], false⟩] = gDValue rk l d := by kernel_rfl

noncomputable def lpDParts_4s (rk : Nat) (again : Int → Nat → LI → Int → Int → Nat → LC → LI → Int → LC → OO) (k0 : Int → LI → Int → OO) (k1 : Int → Nat → LI → Int → LI → Int → Int → Nat → LC → LI → Int → LC → OO) (v1 : Int) (v2 : Nat) (v3 : LI) (v4 v5 : Int) (v6 : Nat) (v7 : LC) (v8 : LI) (v9 : Int) (v10 : LC) : OO :=
 cond (decide ((0 : Int) < ((v8.length : Nat) : Int))) (
 cond (bytesOk v8 && (deepOk v9 && decide (v9.toNat < rk))) (
 cond (!(decide ((rdVal v8 v9).1 = 0))) (
 let r2 : Int := (rdVal v8 v9).1
 k0 r2 v3 v4)
 (
 let r4 : Int := (rdVal v8 v9).2.1.1
 let r5 : LI := (rdVal v8 v9).2.1.2.1
 let r6 : LC := (rdVal v8 v9).2.1.2.2
 let r7 : LI := (rdVal v8 v9).2.2
 let l8 : LC := v10 ++ ([.agg [.int .i64 r4, .sli .u8 r5, .slg 3 r6]])
 cond (decide (((l8.length : Nat) : Int) * 56 ≤ LIM)) (
 cond (decide (((l8.length : Nat) : Int) ≤ LIM)) (
 let x9 : Int := IntKind.i64.wrap (((v8.length : Nat) : Int) - ((r7.length : Nat) : Int))
 cond (decide ((0 : Int) ≤ x9)) (
 cond (decide (x9 ≤ ((v8.length : Nat) : Int))) (
 let l10 : LI := List.take (Int.toNat x9) v8
 let l11 : LC := v7 ++ [.sli .u8 l10]
 cond (decide (((l11.length : Nat) : Int) * 24 ≤ LIM)) (
 cond (decide (((l11.length : Nat) : Int) ≤ LIM)) (
 again v1 l11.length v3 v4 v5 l8.length l11 r7 v9 l8) none) none) none) none) none) none)) none)
 (
 k1 v1 v2 v8 ((v8.length : Nat) : Int) v3 v4 v5 v6 v7 v8 v9 v10)
noncomputable def lpDParts_4 (rk : Nat) (k0 : Int → LI → Int → OO) (k1 : Int → Nat → LI → Int → LI → Int → Int → Nat → LC → LI → Int → LC → OO) : Nat → Int → Nat → LI → Int → Int → Nat → LC → LI → Int → LC → OO
 | 0 => fun _ _ _ _ _ _ _ _ _ _ => none
 | n + 1 => lpDParts_4s rk (lpDParts_4 rk k0 k1 n) k0 k1
noncomputable def clpDParts_4_0 (k : KT) : Int → LI → Int → OO := fun y1 y2 y3 => k (.pan (.iface 47 (.agg [.int .i64 y1]))) ⟨[], [(0, ⟨.var [.cl (.sli .u8 y2), .cl (.int .i64 y3)], false⟩)]⟩
noncomputable def clpDParts_4_1 (k : KT) : Int → Nat → LI → Int → LI → Int → Int → Nat → LC → LI → Int → LC → OO := fun y1 y2 y3 y4 y5 y6 y7 y8 y9 y10 y11 y12 => k (.exit 0) ⟨[(0, .ptr 0 0 0), (1, .cl (.int .i64 y1)), (6, .ptr 70 0 0), (7, .ptr 71 0 0), (8, .ref 72 0 y2 true 1), (9, .ptr 84 0 0), (21, .ptr 84 0 0), (22, .ptr 84 0 0), (23, .ptr 84 0 0), (24, .cl (.sli .u8 y3)), (25, .cl (.int .i64 y4)), (26, .cl (.bool false))], [(0, ⟨.var [.cl (.sli .u8 y5), .cl (.int .i64 y6)], false⟩), (70, ⟨.var [.cl (.int .i64 0), .nils, .nils], false⟩), (71, ⟨.var [.cl (.int .i64 y7), .nils, .ref 100 0 y8 true 3], false⟩), (72, ⟨.gen 1 y9, false⟩), (84, ⟨.var [.cl (.sli .u8 y10), .cl (.int .i64 y11)], false⟩), (100, ⟨.gen 3 y12, false⟩)]⟩
noncomputable def LDParts_4 (rk : Nat) : St → (KT) → OO := fun σ k => match σ with
 | ⟨[(q1, .ptr q2 q3 q4), (q5, .cl (.int .i64 v1)), (q6, .ptr q7 q8 q9), (q10, .ptr q11 q12 q13), (q14, .ref q15 q16 v2 true q17), (q18, .ptr q19 q20 q21)], [(q22, ⟨.var [.cl (.sli .u8 v3), .cl (.int .i64 v4)], false⟩), (q23, ⟨.var [.cl (.int .i64 q24), .nils, .nils], false⟩), (q25, ⟨.var [.cl (.int .i64 v5), .nils, .ref q26 q27 v6 true q28], false⟩), (q29, ⟨.gen q30 v7, false⟩), (q31, ⟨.var [.cl (.sli .u8 v8), .cl (.int .i64 v9)], false⟩), (q32, ⟨.gen q33 v10, false⟩)]⟩ => cond (Nat.beq q1 0 && Nat.beq q2 0 && Nat.beq q3 0 && Nat.beq q4 0 && Nat.beq q5 1 && Nat.beq q6 6 && Nat.beq q7 70 && Nat.beq q8 0 && Nat.beq q9 0 && Nat.beq q10 7 && Nat.beq q11 71 && Nat.beq q12 0 && Nat.beq q13 0 && Nat.beq q14 8 && Nat.beq q15 72 && Nat.beq q16 0 && Nat.beq q17 1 && Nat.beq q18 9 && Nat.beq q19 84 && Nat.beq q20 0 && Nat.beq q21 0 && Nat.beq q22 0 && Nat.beq q23 70 && decide (q24 = 0) && Nat.beq q25 71 && Nat.beq q26 100 && Nat.beq q27 0 && Nat.beq q28 3 && Nat.beq q29 72 && Nat.beq q30 1 && Nat.beq q31 84 && Nat.beq q32 100 && Nat.beq q33 3) (shut (lpDParts_4 rk (clpDParts_4_0 k) (clpDParts_4_1 k) FUEL) v1 v2 v3 v4 v5 v6 v7 v8 v9 v10) none
 | _ => none
noncomputable def EDParts (rk : Nat) : Env := {
 orc := fun g => cond (Nat.beq g 22) (SDValue) (cond (Nat.beq g 23) (SDMust) (cond (Nat.beq g 42) (SOSorted) (fun _ _ => Tree.fail)))
 pre := fun g => cond (Nat.beq g 22) (preRDValue (rk)) (cond (Nat.beq g 23) (preDMust) (cond (Nat.beq g 42) (preOSorted) (fun _ _ => true)))
 byref := fun g => cond (Nat.beq g 22) ([0]) ([])
 keep := fun _ => false
 spl := fun g => cond (Nat.beq g 23) (some 0) (none)
 live := fun r => cond (Nat.beq r 4) ([0, 1, 6, 7, 8, 9]) ([])
 ren := fun r => cond (Nat.beq r 4) ([(114, 72)]) ([])
 vir := fun r => cond (Nat.beq r 4) ([(71, 2, 100, .gen 3 [])]) ([])
 glob := glDer
 nt := 59
 lp := fun r => cond (Nat.beq r 4) (some (LDParts_4 rk)) (none)
}
noncomputable def blpDParts_4 : Code := (Cd.fst (Cd.fst (Cd.fst (Cd.snd (Cd.snd (Cd.snd (Cd.snd (Tryd.f33.body.getD .skip))))))))
theorem lpDParts_4_step (rk : Nat) (k : KT) (n : Nat) (v1 : Int) (v2 : Nat) (v3 : LI) (v4 v5 : Int) (v6 : Nat) (v7 : LC) (v8 : LI) (v9 : Int) (v10 : LC) : iterK (n + 1) (codeK Tryd.prog (EDParts rk) 40 blpDParts_4) (head (EDParts rk) 4) ⟨[(0, .ptr 0 0 0), (1, .cl (.int .i64 v1)), (6, .ptr 70 0 0), (7, .ptr 71 0 0), (8, .ref 72 0 v2 true 1), (9, .ptr 84 0 0)], [(0, ⟨.var [.cl (.sli .u8 v3), .cl (.int .i64 v4)], false⟩), (70, ⟨.var [.cl (.int .i64 0), .nils, .nils], false⟩), (71, ⟨.var [.cl (.int .i64 v5), .nils, .ref 100 0 v6 true 3], false⟩), (72, ⟨.gen 1 v7, false⟩), (84, ⟨.var [.cl (.sli .u8 v8), .cl (.int .i64 v9)], false⟩), (100, ⟨.gen 3 v10, false⟩)]⟩ k = lpDParts_4s rk (fun v1 v2 v3 v4 v5 v6 v7 v8 v9 v10 => iterK n (codeK Tryd.prog (EDParts rk) 40 blpDParts_4) (head (EDParts rk) 4) ⟨[(0, .ptr 0 0 0), (1, .cl (.int .i64 v1)), (6, .ptr 70 0 0), (7, .ptr 71 0 0), (8, .ref 72 0 v2 true 1), (9, .ptr 84 0 0)], [(0, ⟨.var [.cl (.sli .u8 v3), .cl (.int .i64 v4)], false⟩), (70, ⟨.var [.cl (.int .i64 0), .nils, .nils], false⟩), (71, ⟨.var [.cl (.int .i64 v5), .nils, .ref 100 0 v6 true 3], false⟩), (72, ⟨.gen 1 v7, false⟩), (84, ⟨.var [.cl (.sli .u8 v8), .cl (.int .i64 v9)], false⟩), (100, ⟨.gen 3 v10, false⟩)]⟩ k) (clpDParts_4_0 k) (clpDParts_4_1 k) v1 v2 v3 v4 v5 v6 v7 v8 v9 v10 := by kernel_rfl
theorem lpDParts_4_eq (rk : Nat) (k : KT) : ∀ (n : Nat), ∀ (v1 : Int) (v2 : Nat) (v3 : LI) (v4 v5 : Int) (v6 : Nat) (v7 : LC) (v8 : LI) (v9 : Int) (v10 : LC), iterK n (codeK Tryd.prog (EDParts rk) 40 blpDParts_4) (head (EDParts rk) 4) ⟨[(0, .ptr 0 0 0), (1, .cl (.int .i64 v1)), (6, .ptr 70 0 0), (7, .ptr 71 0 0), (8, .ref 72 0 v2 true 1), (9, .ptr 84 0 0)], [(0, ⟨.var [.cl (.sli .u8 v3), .cl (.int .i64 v4)], false⟩), (70, ⟨.var [.cl (.int .i64 0), .nils, .nils], false⟩), (71, ⟨.var [.cl (.int .i64 v5), .nils, .ref 100 0 v6 true 3], false⟩), (72, ⟨.gen 1 v7, false⟩), (84, ⟨.var [.cl (.sli .u8 v8), .cl (.int .i64 v9)], false⟩), (100, ⟨.gen 3 v10, false⟩)]⟩ k = lpDParts_4 rk (clpDParts_4_0 k) (clpDParts_4_1 k) n v1 v2 v3 v4 v5 v6 v7 v8 v9 v10
  | 0 => by intros; rfl
  | n + 1 => by
    intros
    rw [lpDParts_4_step]
    have ih := lpDParts_4_eq rk k n
    simp only [lpDParts_4, ih]
theorem LDParts_4_ok (rk : Nat) : ∀ (σ : St) (k : KT) (r : Out), LDParts_4 rk σ k = some r → ∃ n, iterK n (codeK Tryd.prog (EDParts rk) 40 blpDParts_4) (head (EDParts rk) 4) σ k = some r := by
  intro σ k r h
  unfold LDParts_4 at h
  split at h
  · replace h := cond_some h
    obtain ⟨hc, h⟩ := h
    simp only [Bool.and_eq_true, beq_prop, decide_eq_true_eq, Bool.not_eq_true'] at hc
    obtain ⟨⟨⟨⟨⟨⟨⟨⟨⟨⟨⟨⟨⟨⟨⟨⟨⟨⟨⟨⟨⟨⟨⟨⟨⟨⟨⟨⟨⟨⟨⟨⟨rfl, rfl⟩, rfl⟩, rfl⟩, rfl⟩, rfl⟩, rfl⟩, rfl⟩, rfl⟩, rfl⟩, rfl⟩, rfl⟩, rfl⟩, rfl⟩, rfl⟩, rfl⟩, rfl⟩, rfl⟩, rfl⟩, rfl⟩, rfl⟩, rfl⟩, rfl⟩, rfl⟩, rfl⟩, rfl⟩, rfl⟩, rfl⟩, rfl⟩, rfl⟩, rfl⟩, rfl⟩, rfl⟩ := hc
    rw [shut_eq] at h
    exact ⟨FUEL, (lpDParts_4_eq rk k FUEL _ _ _ _ _ _ _ _ _ _ ).trans h⟩
  · cases h
theorem loopsDParts (rk : Nat) : ∀ c, Tryd.f33.body = some c → LoopsOk Tryd.prog (EDParts rk) 40 c := by
  intro c hc
  cases hc
  exact ⟨trivial, ⟨trivial, ⟨trivial, ⟨trivial, ⟨⟨⟨⟨trivial, ⟨trivial, trivial, jn_none rfl⟩, jn_none rfl⟩, ⟨trivial, ⟨trivial, trivial, jn_none rfl⟩, jn_none rfl⟩, jn_none rfl⟩, lp_some rfl (LDParts_4_ok rk)⟩, ⟨trivial, ⟨trivial, trivial, jn_none rfl⟩, jn_none rfl⟩, jn_none rfl⟩, jn_none rfl⟩, jn_none rfl⟩, jn_none rfl⟩, jn_none rfl⟩
noncomputable def gDParts (rk : Nat) (tag : Int) (b : LI) (l : LI) (d : Int) : OO :=
 let x1 : Int := IntKind.i64.wrap (d - 1)
 shut (lpDParts_4 rk
 (fun y2 y3 y4 =>
 some (.pan (.iface 47 (.agg [.int .i64 y2])) [some ⟨.var [.cl (.sli .u8 y3), .cl (.int .i64 y4)], false⟩]))
 (fun y5 y6 y7 y8 y9 y10 y11 y12 y13 y14 y15 y16 =>
 cond (!decide (y5 = 49)) (
 some (.ret [.cl (.agg [.int .i64 y11, .sli .u8 [], .slg 3 y16])] [some ⟨.var [.cl (.sli .u8 y9), .cl (.int .i64 y10)], false⟩]))
 (
 cond (rowsOk y13) (
 let r17 : Bool := rowsSorted y13
 cond (r17) (
 some (.ret [.cl (.agg [.int .i64 y11, .sli .u8 [], .slg 3 y16])] [some ⟨.var [.cl (.sli .u8 y9), .cl (.int .i64 y10)], false⟩]))
 (
 cond (true) (
 some (.pan (.iface 47 (.agg [.int .i64 6])) [some ⟨.var [.cl (.sli .u8 y9), .cl (.int .i64 y10)], false⟩]))
 (
 some (.ret [.cl (.agg [.int .i64 y11, .sli .u8 [], .slg 3 y16])] [some ⟨.var [.cl (.sli .u8 y9), .cl (.int .i64 y10)], false⟩])))) none))
 FUEL) tag 0 l d tag 0 [] b x1 []
theorem gDParts_eq (rk : Nat) (tag : Int) (b : LI) (l : LI) (d : Int) : bodyK Tryd.prog (EDParts rk) 40 false Tryd.f33 [.ptr 0 0 0, .cl (.int .i64 tag), .cl (.sli .u8 b)] [⟨.var [.cl (.sli .u8 l), .cl (.int .i64 d)], false⟩] = gDParts rk tag b l d := by kernel_rfl

noncomputable def EDParse : Env := {
 orc := fun g => cond (Nat.beq g 22) (SDValue) (cond (Nat.beq g 23) (SDMust) (fun _ _ => Tree.fail))
 pre := fun g => cond (Nat.beq g 22) (preDValue) (cond (Nat.beq g 23) (preDMust) (fun _ _ => true))
 byref := fun g => cond (Nat.beq g 22) ([0]) ([])
 keep := fun _ => false
 spl := fun g => cond (Nat.beq g 23) (some 0) (none)
 live := fun _ => []
 ren := fun _ => []
 glob := glDer
 nt := 23
 lp := fun _ => none
 rg := false
}
noncomputable def DEDParse : DEnv := {
 rid := 3
 low := [(66, 0), (67, 1)]
 orc := fun g => cond (Nat.beq g 21) DDCatch (fun _ _ _ => none)
 pre := fun g => cond (Nat.beq g 21) preDDCatch (fun _ _ _ => false) }
theorem loopsDParse : ∀ c, Tryd.f9.body = some c → LoopsOk Tryd.prog (EDParse) 40 c := by
  intro c hc
  cases hc
  exact ⟨trivial, ⟨⟨trivial, ⟨⟨trivial, trivial, jn_none rfl⟩, trivial, jn_none rfl⟩, jn_none rfl⟩, ⟨trivial, ⟨trivial, ⟨trivial, ⟨trivial, ⟨trivial, trivial, jn_none rfl⟩, jn_none rfl⟩, jn_none rfl⟩, jn_none rfl⟩, jn_none rfl⟩, jn_none rfl⟩, jn_none rfl⟩
noncomputable def gDParse (b : LI) : OO :=
 cond (decide ((1048576 : Int) < ((b.length : Nat) : Int))) (
 some (.ret [.cl (.agg [.int .i64 0, .sli .u8 [], .slg 3 []]), .cl (.int .i64 2)] []))
 (
 cond (bytesOk b && deepOk 32) (
 cond (!(decide ((rdVal b 32).1 = 0))) (
 let r1 : Int := (rdVal b 32).1
 some (.ret [.cl (.agg [.int .i64 0, .sli .u8 [], .slg 3 []]), .cl (.int .i64 r1)] []))
 (
 let r3 : Int := (rdVal b 32).2.1.1
 let r4 : LI := (rdVal b 32).2.1.2.1
 let r5 : LC := (rdVal b 32).2.1.2.2
 let r6 : LI := (rdVal b 32).2.2
 cond (decide (((r6.length : Nat) : Int) = 0)) (
 some (.ret [.cl (.agg [.int .i64 r3, .sli .u8 r4, .slg 3 r5]), .cl (.int .i64 0)] []))
 (
 cond (true) (
 some (.ret [.cl (.agg [.int .i64 0, .sli .u8 [], .slg 3 []]), .cl (.int .i64 7)] []))
 (
 some (.ret [.cl (.agg [.int .i64 r3, .sli .u8 r4, .slg 3 r5]), .cl (.int .i64 0)] []))))) none)
theorem gDParse_eq (b : LI) : bodyDK Tryd.prog (EDParse) DEDParse 40 false Tryd.f9 [.cl (.sli .u8 b)] [] = gDParse b := by kernel_rfl

noncomputable def ELAwake : Env := {
 orc := fun g => cond (Nat.beq g 9) (SDParse) (cond (Nat.beq g 15) (SR1Same) (fun _ _ => Tree.fail))
 pre := fun g => cond (Nat.beq g 9) (preDParse) (cond (Nat.beq g 15) (preR1Same) (fun _ _ => true))
 byref := fun _ => []
 keep := fun _ => false
 live := fun _ => []
 ren := fun _ => []
 glob := glDer
 nt := 65
 lp := fun _ => none
}
theorem loopsLAwake : ∀ c, Tryd.f8.body = some c → LoopsOk Tryd.prog (ELAwake) 40 c := by
  intro c hc
  cases hc
  exact ⟨trivial, ⟨trivial, ⟨trivial, ⟨trivial, ⟨trivial, ⟨trivial, ⟨trivial, trivial, jn_none rfl⟩, jn_none rfl⟩, jn_none rfl⟩, jn_none rfl⟩, jn_none rfl⟩, jn_none rfl⟩, jn_none rfl⟩
noncomputable def gLAwake  : OO :=
 cond (bytesOk [2, 1, 5]) (
 let r1 : Int := (ndParse [2, 1, 5]).1.1
 let r2 : LI := (ndParse [2, 1, 5]).1.2.1
 let r4 : Int := (ndParse [2, 1, 5]).2
 cond (bytesOk [2, 2, 0, 5]) (
 let r8 : Int := (ndParse [2, 2, 0, 5]).2
 cond (bytesOk [2, 129, 1, 5]) (
 let r12 : Int := (ndParse [2, 129, 1, 5]).2
 cond (bytesOk [5, 0, 0]) (
 let r16 : Int := (ndParse [5, 0, 0]).2
 cond (bytesOk [31, 0]) (
 let r20 : Int := (ndParse [31, 0]).2
 cond (decide (r4 = 0)) (
 cond (decide (r1 = 2)) (
 cond (lenOk r2) (
 let r21 : Bool := listSame r2 [5]
 cond (r21) (
 cond (decide (r8 = 5)) (
 cond (decide (r12 = 1)) (
 cond (decide (r16 = 7)) (
 some (.ret [.cl (.bool (decide (r20 = 4)))] []))
 (
 some (.ret [.cl (.bool false)] [])))
 (
 some (.ret [.cl (.bool false)] [])))
 (
 some (.ret [.cl (.bool false)] [])))
 (
 some (.ret [.cl (.bool false)] []))) none)
 (
 some (.ret [.cl (.bool false)] [])))
 (
 some (.ret [.cl (.bool false)] []))) none) none) none) none) none
theorem gLAwake_eq  : bodyK Tryd.prog (ELAwake) 40 false Tryd.f8 [] [] = gLAwake  := by kernel_rfl

noncomputable def ELReads : Env := {
 orc := fun g => cond (Nat.beq g 8) (SLAwake) (cond (Nat.beq g 9) (SDParse) (cond (Nat.beq g 10) (SRParse) (cond (Nat.beq g 11) (SRSame) (fun _ _ => Tree.fail))))
 pre := fun g => cond (Nat.beq g 8) (preLAwake) (cond (Nat.beq g 9) (preDParse) (cond (Nat.beq g 10) (preRParse) (cond (Nat.beq g 11) (preRSame) (fun _ _ => true))))
 byref := fun _ => []
 keep := fun _ => false
 live := fun _ => []
 ren := fun _ => []
 glob := glDer
 nt := 32
 lp := fun _ => none
}
theorem loopsLReads : ∀ c, Tryd.f3.body = some c → LoopsOk Tryd.prog (ELReads) 40 c := by
  intro c hc
  cases hc
  exact ⟨trivial, ⟨⟨trivial, ⟨⟨trivial, trivial, jn_none rfl⟩, trivial, jn_none rfl⟩, jn_none rfl⟩, ⟨trivial, ⟨trivial, ⟨trivial, trivial, jn_none rfl⟩, jn_none rfl⟩, jn_none rfl⟩, jn_none rfl⟩, jn_none rfl⟩
noncomputable def gLReads (b : LI) : OO :=
 cond (decide ((3000 : Int) < ((b.length : Nat) : Int))) (
 let r1 : Bool := true
 some (.ret [.cl (.bool r1)] []))
 (
 cond (bytesOk b) (
 let r2 : Int := (ndParse b).1.1
 let r3 : LI := (ndParse b).1.2.1
 let r4 : LC := (ndParse b).1.2.2
 let r5 : Int := (ndParse b).2
 cond (bytesOk b) (
 let r6 : Int := (ndParse b).1.1
 let r7 : LI := (ndParse b).1.2.1
 let r8 : LC := (ndParse b).1.2.2
 let r9 : Int := (ndParse b).2
 cond (isN [.int .i64 r2, .sli .u8 r3, .slg 3 r4] && isN [.int .i64 r6, .sli .u8 r7, .slg 3 r8]) (
 let r10 : Bool := ndSame [.int .i64 r2, .sli .u8 r3, .slg 3 r4] [.int .i64 r6, .sli .u8 r7, .slg 3 r8]
 cond (r10) (
 cond (decide (r5 = r9)) (
 let r11 : Bool := true
 some (.ret [.cl (.bool r11)] []))
 (
 some (.ret [.cl (.bool false)] [])))
 (
 some (.ret [.cl (.bool false)] []))) none) none) none)
theorem gLReads_eq (b : LI) : bodyK Tryd.prog (ELReads) 40 false Tryd.f3 [.cl (.sli .u8 b)] [] = gLReads b := by kernel_rfl

noncomputable def lpLDeep_4s (again : Int → Nat → Int → Int → LI → OO) (k0 : Int → Nat → Int → Int → LI → OO) (v1 : Int) (v2 : Nat) (v3 v4 : Int) (v5 : LI) : OO :=
 cond (decide (v4 < v3)) (
 let x5 : Int := IntKind.u8.wrap ((v2 : Nat) : Int)
 let l6 : LI := (shut [48, x5]) ++ v5
 cond (decide (((l6.length : Nat) : Int) * 1 ≤ LIM)) (
 cond (decide (((l6.length : Nat) : Int) ≤ LIM)) (
 let x7 : Int := IntKind.i64.wrap (v4 + 1)
 again v1 l6.length v3 x7 l6) none) none)
 (
 k0 v1 v2 v3 v4 v5)
noncomputable def lpLDeep_4 (k0 : Int → Nat → Int → Int → LI → OO) : Nat → Int → Nat → Int → Int → LI → OO
 | 0 => fun _ _ _ _ _ => none
 | n + 1 => lpLDeep_4s (lpLDeep_4 k0 n) k0
noncomputable def clpLDeep_4_0 (k : KT) : Int → Nat → Int → Int → LI → OO := fun y1 y2 y3 y4 y5 => k (.exit 0) ⟨[(3, .cl (.int .i64 y1)), (4, .ref 75 0 y2 true 1), (13, .cl (.int .i64 y3)), (14, .cl (.int .i64 y4)), (15, .cl (.bool false))], [(75, ⟨.ints .u8 y5, false⟩)]⟩
noncomputable def LLDeep_4 : St → (KT) → OO := fun σ k => match σ with
 | ⟨[(q1, .cl (.int .i64 v1)), (q2, .ref q3 q4 v2 true q5), (q6, .cl (.int .i64 v3)), (q7, .cl (.int .i64 v4))], [(q8, ⟨.ints .u8 v5, false⟩)]⟩ => cond (Nat.beq q1 3 && Nat.beq q2 4 && Nat.beq q3 75 && Nat.beq q4 0 && Nat.beq q5 1 && Nat.beq q6 13 && Nat.beq q7 14 && Nat.beq q8 75) (shut (lpLDeep_4 (clpLDeep_4_0 k) FUEL) v1 v2 v3 v4 v5) none
 | _ => none
noncomputable def ELDeep : Env := {
 orc := fun g => cond (Nat.beq g 8) (SLAwake) (cond (Nat.beq g 9) (SDParse) (fun _ _ => Tree.fail))
 pre := fun g => cond (Nat.beq g 8) (preLAwake) (cond (Nat.beq g 9) (preDParse) (fun _ _ => true))
 byref := fun _ => []
 keep := fun _ => false
 live := fun r => cond (Nat.beq r 4) ([3, 4, 13, 14]) ([])
 ren := fun r => cond (Nat.beq r 4) ([(85, 75)]) ([])
 glob := glDer
 nt := 48
 lp := fun r => cond (Nat.beq r 4) (some (LLDeep_4)) (none)
 sr := fun r => cond (Nat.beq r 83) (true) (false)
}
noncomputable def blpLDeep_4 : Code := (Cd.fst (Cd.fst (Cd.snd (Cd.fst (Cd.snd (Cd.snd (Cd.snd (Tryd.f4.body.getD .skip))))))))
theorem lpLDeep_4_step (k : KT) (n : Nat) (v1 : Int) (v2 : Nat) (v3 v4 : Int) (v5 : LI) : iterK (n + 1) (codeK Tryd.prog (ELDeep) 40 blpLDeep_4) (head (ELDeep) 4) ⟨[(3, .cl (.int .i64 v1)), (4, .ref 75 0 v2 true 1), (13, .cl (.int .i64 v3)), (14, .cl (.int .i64 v4))], [(75, ⟨.ints .u8 v5, false⟩)]⟩ k = lpLDeep_4s (fun v1 v2 v3 v4 v5 => iterK n (codeK Tryd.prog (ELDeep) 40 blpLDeep_4) (head (ELDeep) 4) ⟨[(3, .cl (.int .i64 v1)), (4, .ref 75 0 v2 true 1), (13, .cl (.int .i64 v3)), (14, .cl (.int .i64 v4))], [(75, ⟨.ints .u8 v5, false⟩)]⟩ k) (clpLDeep_4_0 k) v1 v2 v3 v4 v5 := by kernel_rfl
theorem lpLDeep_4_eq (k : KT) : ∀ (n : Nat), ∀ (v1 : Int) (v2 : Nat) (v3 v4 : Int) (v5 : LI), iterK n (codeK Tryd.prog (ELDeep) 40 blpLDeep_4) (head (ELDeep) 4) ⟨[(3, .cl (.int .i64 v1)), (4, .ref 75 0 v2 true 1), (13, .cl (.int .i64 v3)), (14, .cl (.int .i64 v4))], [(75, ⟨.ints .u8 v5, false⟩)]⟩ k = lpLDeep_4 (clpLDeep_4_0 k) n v1 v2 v3 v4 v5
  | 0 => by intros; rfl
  | n + 1 => by
    intros
    rw [lpLDeep_4_step]
    have ih := lpLDeep_4_eq k n
    simp only [lpLDeep_4, ih]
theorem LLDeep_4_ok : ∀ (σ : St) (k : KT) (r : Out), LLDeep_4 σ k = some r → ∃ n, iterK n (codeK Tryd.prog (ELDeep) 40 blpLDeep_4) (head (ELDeep) 4) σ k = some r := by
  intro σ k r h
  unfold LLDeep_4 at h
  split at h
  · replace h := cond_some h
    obtain ⟨hc, h⟩ := h
    simp only [Bool.and_eq_true, beq_prop, decide_eq_true_eq, Bool.not_eq_true'] at hc
    obtain ⟨⟨⟨⟨⟨⟨⟨rfl, rfl⟩, rfl⟩, rfl⟩, rfl⟩, rfl⟩, rfl⟩, rfl⟩ := hc
    rw [shut_eq] at h
    exact ⟨FUEL, (lpLDeep_4_eq k FUEL _ _ _ _ _ ).trans h⟩
  · cases h
theorem loopsLDeep : ∀ c, Tryd.f4.body = some c → LoopsOk Tryd.prog (ELDeep) 40 c := by
  intro c hc
  cases hc
  exact ⟨trivial, ⟨trivial, ⟨trivial, ⟨⟨trivial, ⟨⟨trivial, ⟨⟨trivial, trivial, jn_none rfl⟩, ⟨trivial, trivial, jn_none rfl⟩, jn_none rfl⟩, jn_none rfl⟩, lp_some rfl (LLDeep_4_ok)⟩, jn_none rfl⟩, ⟨⟨trivial, ⟨⟨trivial, trivial, jn_none rfl⟩, trivial, jn_none rfl⟩, jn_none rfl⟩, ⟨trivial, ⟨trivial, trivial, jn_none rfl⟩, jn_none rfl⟩, jn_none rfl⟩, jn_none rfl⟩, jn_none rfl⟩, jn_none rfl⟩, jn_none rfl⟩
noncomputable def gLDeep (n : Int) : OO :=
 let x1 : Int := Int.tmod n 60
 let x2 : Int := IntKind.i64.wrap x1
 let x3 : Int := IntKind.i64.wrap ((1 : Int) + x2)
 let x4 : Int := IntKind.i64.wrap (x3 - 1)
 shut (lpLDeep_4
 (fun y5 y6 y7 y8 y9 =>
 cond (decide ((127 : Int) < ((y6 : Nat) : Int))) (
 let r10 : Bool := true
 some (.ret [.cl (.bool r10)] []))
 (
 cond (bytesOk y9) (
 let r14 : Int := (ndParse y9).2
 cond (((decide (r14 = 0)) == (decide (y5 ≤ 32)))) (
 cond (decide (r14 = 0)) (
 let r15 : Bool := true
 some (.ret [.cl (.bool r15)] []))
 (
 cond (decide (r14 = 3)) (
 let r16 : Bool := true
 some (.ret [.cl (.bool r16)] []))
 (
 some (.ret [.cl (.bool false)] []))))
 (
 some (.ret [.cl (.bool false)] []))) none))
 FUEL) x3 2 x4 0 [5, 0]
theorem gLDeep_eq (n : Int) : bodyK Tryd.prog (ELDeep) 40 false Tryd.f4 [.cl (.int .u8 n)] [] = gLDeep n := by kernel_rfl

noncomputable def lpONums_0s (l : Nat) (again : LI → OO) (k0 : Int → Int → LI → Int → Int → Int → LI → Int → Int → Int → Int → Int → Int → Bool → LI → OO) (k1 : Int → Int → LI → Int → Int → Int → LI → Int → Int → Int → Int → Int → Int → Bool → Int → Bool → LI → OO) (k2 : LI → Int → LI → OO) (v1 : LI) : OO :=
 cond (decide ((0 : Int) < ((v1.length : Nat) : Int))) (
 cond (bytesOk v1) (
 let r1 : Int := (oidNumber v1).1
 let r2 : Int := (oidNumber v1).2
 cond (Nat.beq l l) (
 yldO [.int .u32 r1, .bool (decide ((0 : Int) < r2))] (
 k0 r1 r2 v1 ((v1.length : Nat) : Int) r1 r2 v1 r1 r2 r1 r2 r1 r2 (decide ((0 : Int) < r2)) v1)
 (
 cond (decide (r2 = 0)) (
 k1 r1 r2 v1 ((v1.length : Nat) : Int) r1 r2 v1 r1 r2 r1 r2 r1 r2 (decide ((0 : Int) < r2)) r2 (decide (r2 = 0)) v1)
 (
 cond (decide ((0 : Int) ≤ r2)) (
 cond (decide (r2 ≤ ((v1.length : Nat) : Int))) (
 let l3 : LI := List.drop (Int.toNat r2) v1
 again l3) none) none))) none) none)
 (
 k2 v1 ((v1.length : Nat) : Int) v1)
noncomputable def lpONums_0 (l : Nat) (k0 : Int → Int → LI → Int → Int → Int → LI → Int → Int → Int → Int → Int → Int → Bool → LI → OO) (k1 : Int → Int → LI → Int → Int → Int → LI → Int → Int → Int → Int → Int → Int → Bool → Int → Bool → LI → OO) (k2 : LI → Int → LI → OO) : Nat → LI → OO
 | 0 => fun _ => none
 | n + 1 => lpONums_0s l (lpONums_0 l k0 k1 k2 n) k0 k1 k2
noncomputable def clpONums_0_0 (l : Nat) (k : KT) : Int → Int → LI → Int → Int → Int → LI → Int → Int → Int → Int → Int → Int → Bool → LI → OO := fun y1 y2 y3 y4 y5 y6 y7 y8 y9 y10 y11 y12 y13 y14 y15 => k .ret ⟨[(0, .cl (.fn (.yield l) [] [])), (1, .ptr 0 0 0), (3, .cl (.int .u32 y1)), (4, .cl (.int .i64 y2)), (5, .cl (.sli .u8 y3)), (6, .cl (.int .i64 y4)), (7, .cl (.bool true)), (8, .tup [.cl (.int .u32 y5), .cl (.int .i64 y6)]), (9, .cl (.sli .u8 y7)), (10, .tup [.cl (.int .u32 y8), .cl (.int .i64 y9)]), (11, .cl (.int .u32 y10)), (12, .cl (.int .i64 y11)), (13, .cl (.fn (.yield l) [] [])), (14, .cl (.int .u32 y12)), (15, .cl (.int .i64 y13)), (16, .cl (.bool y14)), (17, .cl (.bool false)), (18, .cl (.bool true)), (19, .cl (.bool true)), (20, .tup []), (21, .tup []), (22, .cl (.bool true))], [(0, ⟨.var [.cl (.sli .u8 y15)], false⟩)]⟩
noncomputable def clpONums_0_1 (l : Nat) (k : KT) : Int → Int → LI → Int → Int → Int → LI → Int → Int → Int → Int → Int → Int → Bool → Int → Bool → LI → OO := fun y1 y2 y3 y4 y5 y6 y7 y8 y9 y10 y11 y12 y13 y14 y15 y16 y17 => k .ret ⟨[(0, .cl (.fn (.yield l) [] [])), (1, .ptr 0 0 0), (3, .cl (.int .u32 y1)), (4, .cl (.int .i64 y2)), (5, .cl (.sli .u8 y3)), (6, .cl (.int .i64 y4)), (7, .cl (.bool true)), (8, .tup [.cl (.int .u32 y5), .cl (.int .i64 y6)]), (9, .cl (.sli .u8 y7)), (10, .tup [.cl (.int .u32 y8), .cl (.int .i64 y9)]), (11, .cl (.int .u32 y10)), (12, .cl (.int .i64 y11)), (13, .cl (.fn (.yield l) [] [])), (14, .cl (.int .u32 y12)), (15, .cl (.int .i64 y13)), (16, .cl (.bool y14)), (17, .cl (.bool true)), (18, .cl (.bool false)), (19, .cl (.bool false)), (20, .cl (.int .i64 y15)), (21, .cl (.bool y16)), (22, .cl (.bool true))], [(0, ⟨.var [.cl (.sli .u8 y17)], false⟩)]⟩
noncomputable def clpONums_0_2 (l : Nat) (k : KT) : LI → Int → LI → OO := fun y1 y2 y3 => k (.exit 0) ⟨[(0, .cl (.fn (.yield l) [] [])), (1, .ptr 0 0 0), (5, .cl (.sli .u8 y1)), (6, .cl (.int .i64 y2)), (7, .cl (.bool false))], [(0, ⟨.var [.cl (.sli .u8 y3)], false⟩)]⟩
noncomputable def LONums_0 (l : Nat) : St → (KT) → OO := fun σ k => match σ with
 | ⟨[(q1, .cl (.fn (.yield q2) [] [])), (q3, .ptr q4 q5 q6)], [(q7, ⟨.var [.cl (.sli .u8 v1)], false⟩)]⟩ => cond (Nat.beq q1 0 && Nat.beq q3 1 && Nat.beq q4 0 && Nat.beq q5 0 && Nat.beq q6 0 && Nat.beq q7 0 && Nat.beq l q2) (shut (lpONums_0 l (clpONums_0_0 l k) (clpONums_0_1 l k) (clpONums_0_2 l k) FUEL) v1) none
 | _ => none
noncomputable def EONums (l : Nat) : Env := {
 orc := fun g => cond (Nat.beq g 76) (SONumber) (fun _ _ => Tree.fail)
 pre := fun g => cond (Nat.beq g 76) (preONumber) (fun _ _ => true)
 byref := fun _ => []
 keep := fun _ => false
 live := fun r => cond (Nat.beq r 0) ([0, 1]) ([])
 ren := fun _ => []
 glob := glDer
 nt := 26
 lp := fun r => cond (Nat.beq r 0) (some (LONums_0 l)) (none)
 rg := false
 yn := l
 yl := fun r => cond (Nat.beq r 2) (some 4) (none)
}
noncomputable def blpONums_0 : Code := (Cd.fst (Cd.fst (Tryd.f75.body.getD .skip)))
theorem lpONums_0_step (l : Nat) (k : KT) (n : Nat) (v1 : LI) : iterK (n + 1) (codeK Tryd.prog (EONums l) 40 blpONums_0) (head (EONums l) 0) ⟨[(0, .cl (.fn (.yield l) [] [])), (1, .ptr 0 0 0)], [(0, ⟨.var [.cl (.sli .u8 v1)], false⟩)]⟩ k = lpONums_0s l (fun v1 => iterK n (codeK Tryd.prog (EONums l) 40 blpONums_0) (head (EONums l) 0) ⟨[(0, .cl (.fn (.yield l) [] [])), (1, .ptr 0 0 0)], [(0, ⟨.var [.cl (.sli .u8 v1)], false⟩)]⟩ k) (clpONums_0_0 l k) (clpONums_0_1 l k) (clpONums_0_2 l k) v1 := by kernel_rfl
theorem lpONums_0_eq (l : Nat) (k : KT) : ∀ (n : Nat), ∀ (v1 : LI), iterK n (codeK Tryd.prog (EONums l) 40 blpONums_0) (head (EONums l) 0) ⟨[(0, .cl (.fn (.yield l) [] [])), (1, .ptr 0 0 0)], [(0, ⟨.var [.cl (.sli .u8 v1)], false⟩)]⟩ k = lpONums_0 l (clpONums_0_0 l k) (clpONums_0_1 l k) (clpONums_0_2 l k) n v1
  | 0 => by intros; rfl
  | n + 1 => by
    intros
    rw [lpONums_0_step]
    have ih := lpONums_0_eq l k n
    simp only [lpONums_0, ih]
theorem LONums_0_ok (l : Nat) : ∀ (σ : St) (k : KT) (r : Out), LONums_0 l σ k = some r → ∃ n, iterK n (codeK Tryd.prog (EONums l) 40 blpONums_0) (head (EONums l) 0) σ k = some r := by
  intro σ k r h
  unfold LONums_0 at h
  split at h
  · replace h := cond_some h
    obtain ⟨hc, h⟩ := h
    simp only [Bool.and_eq_true, beq_prop, decide_eq_true_eq, Bool.not_eq_true'] at hc
    obtain ⟨⟨⟨⟨⟨⟨rfl, rfl⟩, rfl⟩, rfl⟩, rfl⟩, rfl⟩, rfl⟩ := hc
    rw [shut_eq] at h
    exact ⟨FUEL, (lpONums_0_eq l k FUEL _ ).trans h⟩
  · cases h
theorem loopsONums (l : Nat) : ∀ c, Tryd.f75.body = some c → LoopsOk Tryd.prog (EONums l) 40 c := by
  intro c hc
  cases hc
  exact ⟨⟨⟨trivial, ⟨trivial, trivial, jn_none rfl⟩, jn_none rfl⟩, ⟨trivial, ⟨⟨trivial, ⟨trivial, trivial, jn_none rfl⟩, jn_none rfl⟩, trivial, jn_none rfl⟩, jn_none rfl⟩, jn_none rfl⟩, lp_some rfl (LONums_0_ok l)⟩
noncomputable def gONums (l : Nat) (b : LI) : OO :=
 cond (Nat.beq l l) (
 shut (lpONums_0 l
 (fun y1 y2 y3 y4 y5 y6 y7 y8 y9 y10 y11 y12 y13 y14 y15 =>
 some (.ret [] [some ⟨.var [.cl (.sli .u8 y15)], false⟩]))
 (fun y16 y17 y18 y19 y20 y21 y22 y23 y24 y25 y26 y27 y28 y29 y30 y31 y32 =>
 some (.ret [] [some ⟨.var [.cl (.sli .u8 y32)], false⟩]))
 (fun y33 y34 y35 =>
 some (.ret [] [some ⟨.var [.cl (.sli .u8 y35)], false⟩]))
 FUEL) b) none
theorem gONums_eq (l : Nat) (b : LI) : bodyK Tryd.prog (EONums l) 40 false Tryd.f75 [.cl (.fn (.yield l) [] []), .ptr 0 0 0] [⟨.var [.cl (.sli .u8 b)], false⟩] = gONums l b := by kernel_rfl

noncomputable def EDCatch : Env := {
 orc := fun _ => fun _ _ => Tree.fail
 pre := fun _ => fun _ _ => true
 byref := fun _ => []
 keep := fun _ => false
 live := fun _ => []
 ren := fun _ => []
 glob := glDer
 nt := 19
 lp := fun _ => none
 rg := false
}
theorem loopsDCatch : ∀ c, Tryd.f21.body = some c → LoopsOk Tryd.prog (EDCatch) 40 c := by
  intro c hc
  cases hc
  exact ⟨trivial, ⟨trivial, ⟨⟨trivial, ⟨⟨trivial, ⟨trivial, trivial, jn_none rfl⟩, jn_none rfl⟩, trivial, jn_none rfl⟩, jn_none rfl⟩, trivial, jn_none rfl⟩, jn_none rfl⟩, jn_none rfl⟩
noncomputable def gDCatch_0 (t : Int) (bb : LI) (kk : LC) (e : Int) : OO :=
 some (.ret [] [some ⟨.var [.cl (.int .i64 t), .cl (.sli .u8 bb), .cl (.slg 3 kk)], false⟩, some ⟨.var [.cl (.int .i64 e)], false⟩])
theorem gDCatch_0_eq (t : Int) (bb : LI) (kk : LC) (e : Int) : recK Tryd.prog (EDCatch) 40 Tryd.f21 (none) [.ptr 0 0 0, .ptr 1 0 0] [⟨.var [.cl (.int .i64 t), .cl (.sli .u8 bb), .cl (.slg 3 kk)], false⟩, ⟨.var [.cl (.int .i64 e)], false⟩] = gDCatch_0 t bb kk e := by kernel_rfl
noncomputable def gDCatch_1 (why : Int) (t : Int) (bb : LI) (kk : LC) (e : Int) : OO :=
 some (.ret [] [some ⟨.var [.cl (.int .i64 0), .nils, .nils], false⟩, some ⟨.var [.cl (.int .i64 why)], false⟩])
theorem gDCatch_1_eq (why : Int) (t : Int) (bb : LI) (kk : LC) (e : Int) : recK Tryd.prog (EDCatch) 40 Tryd.f21 (some (.iface 47 (.agg [.int .i64 why]))) [.ptr 0 0 0, .ptr 1 0 0] [⟨.var [.cl (.int .i64 t), .cl (.sli .u8 bb), .cl (.slg 3 kk)], false⟩, ⟨.var [.cl (.int .i64 e)], false⟩] = gDCatch_1 why t bb kk e := by kernel_rfl
noncomputable def gDCatch_2 (why : Int) (t : Int) (e : Int) : OO :=
 some (.ret [] [some ⟨.var [.cl (.int .i64 0), .nils, .nils], false⟩, some ⟨.var [.cl (.int .i64 why)], false⟩])
theorem gDCatch_2_eq (why : Int) (t : Int) (e : Int) : recK Tryd.prog (EDCatch) 40 Tryd.f21 (some (.iface 47 (.agg [.int .i64 why]))) [.ptr 0 0 0, .ptr 1 0 0] [⟨.var [.cl (.int .i64 t), .nils, .nils], false⟩, ⟨.var [.cl (.int .i64 e)], false⟩] = gDCatch_2 why t e := by kernel_rfl
end Go.Proofs.YtbgkadaidhgggaaDoorA
