/-
 What the reading of apostille/apostilleref05.read comes to, printed by a program. Conditions: none.
-/
import Derived.Test.YtbgkadaidhgggaaDoorT1
set_option linter.unusedVariables false
set_option linter.unusedSimpArgs false
set_option maxRecDepth 100000
namespace Go.Proofs.YtbgkadaidhgggaaDoorA
abbrev zRReadN0 := Int -> Int -> Int -> Int -> Int -> LI -> Nat -> Int -> Int -> LI -> Int -> Int -> LI -> LC -> Int -> Int -> LI -> Int -> Int -> Int -> LI -> LC -> Int -> Int -> Int -> LI -> LC -> Int -> Int -> Int -> Int -> Int -> Nat -> LC -> Int -> LI -> LC -> LC -> OO
abbrev zRReadN1 := Int -> Int -> Int -> Int -> LI -> Nat -> LI -> Int -> Int -> Nat -> LC -> LC -> OO
noncomputable def ql0 (rk : Nat) (again : Int -> Int -> Int -> Int -> LI -> Nat -> Int -> Nat -> LC -> LC -> OO) (k0 : zRReadN0) (k1 : zRReadN1) (v1 v2 v3 v4 : Int) (v5 : LI) (v6 : Nat) (v7 : Int) (v8 : Nat) (v9 v10 : LC) : OO :=
 cond (decide ((0 : Int) < ((v5.length : Nat) : Int))) (
 let x15 : Int := IntKind.i64.wrap (v1 - 1)
 cond (qac v5 && (qb9 x15 && decide (x15.toNat < rk))) (
 let r16 : Int := (qej v5 x15).1.1
 let r17 : LI := (qej v5 x15).1.2.1
 let r18 : LC := (qej v5 x15).1.2.2
 let r19 : Int := (qej v5 x15).2.1
 let r20 : Int := (qej v5 x15).2.2
 cond (!decide (r20 = 0)) (
 k0 v1 r20 v2 v3 v4 v5 v6 r19 r20 v5 ((v5.length : Nat) : Int) r16 r17 r18 r19 r20 v5 v1 x15 r16 r17 r18 r19 r20 r16 r17 r18 r19 r20 r20 r20 v7 v8 v9 r16 r17 r18 v10)
 (
 let l21 : LC := v10 ++ ([.agg [.int .i64 r16, .sli .u8 r17, .slg 3 r18]])
 cond (decide (((l21.length : Nat) : Int) * 56 <= LIM)) (
 cond (decide (((l21.length : Nat) : Int) <= LIM)) (
 cond (decide ((0 : Int) <= r19)) (
 cond (decide (r19 <= ((v5.length : Nat) : Int))) (
 let l22 : LI := List.take (Int.toNat r19) v5
 let l23 : LC := v9 ++ [.sli .u8 l22]
 cond (decide (((l23.length : Nat) : Int) * 24 <= LIM)) (
 cond (decide (((l23.length : Nat) : Int) <= LIM)) (
 cond (decide ((0 : Int) <= r19)) (
 cond (decide (r19 <= ((v5.length : Nat) : Int))) (
 let l24 : LI := List.drop (Int.toNat r19) v5
 again v1 v2 v3 v4 l24 l23.length v7 l21.length l23 l21) none) none) none) none) none) none) none) none)) none)
 (
 k1 v1 v2 v3 v4 v5 v6 v5 ((v5.length : Nat) : Int) v7 v8 v9 v10)
noncomputable def qko (rk : Nat) (k0 : zRReadN0) (k1 : zRReadN1) : Nat -> Int -> Int -> Int -> Int -> LI -> Nat -> Int -> Nat -> LC -> LC -> OO
 | 0 => fun _ _ _ _ _ _ _ _ _ _ => none
 | n + 1 => ql0 rk (qko rk k0 k1 n) k0 k1
noncomputable def gRReadN (rk : Nat) (b : LI) (deep : Int) : OO :=
 cond (decide (deep = 0)) (
 some (.ret [.cl (.agg [.int .i64 0, .sli .u8 [], .slg 3 []]), .cl (.int .i64 0), .cl (.int .i64 3)] []))
 (
 cond (decide (((b.length : Nat) : Int) = 0)) (
 some (.ret [.cl (.agg [.int .i64 0, .sli .u8 [], .slg 3 []]), .cl (.int .i64 0), .cl (.int .i64 1)] []))
 (
 cond (decide ((0 : Int) < ((b.length : Nat) : Int))) (
 Option.bind (b[0]?) fun (e1 : Int) =>
 let x2 : Int := IntKind.i64.wrap e1
 let r3 : Bool := qcv x2
 cond (!r3) (
 some (.ret [.cl (.agg [.int .i64 0, .sli .u8 [], .slg 3 []]), .cl (.int .i64 0), .cl (.int .i64 4)] []))
 (
 cond (decide ((1 : Int) <= ((b.length : Nat) : Int))) (
 let l4 : LI := List.drop 1 b
 cond (qac l4) (
 let r5 : Int := (qmo l4).1
 let r6 : Int := (qmo l4).2
 cond (decide (r6 = 0)) (
 some (.ret [.cl (.agg [.int .i64 0, .sli .u8 [], .slg 3 []]), .cl (.int .i64 0), .cl (.int .i64 1)] []))
 (
 let x7 : Int := IntKind.i64.wrap (((b.length : Nat) : Int) - 1)
 let x8 : Int := IntKind.i64.wrap (x7 - r6)
 cond (decide (x8 < r5)) (
 some (.ret [.cl (.agg [.int .i64 0, .sli .u8 [], .slg 3 []]), .cl (.int .i64 0), .cl (.int .i64 1)] []))
 (
 let x9 : Int := IntKind.i64.wrap ((1 : Int) + r6)
 let x10 : Int := IntKind.i64.wrap (x9 + r5)
 cond (decide ((0 : Int) <= x9)) (
 cond (decide (x9 <= x10)) (
 cond (decide (x10 <= ((b.length : Nat) : Int))) (
 let l11 : LI := List.drop (Int.toNat x9) (List.take (Int.toNat x10) b)
 let r12 : Bool := qbe x2
 cond (!r12) (
 cond (qac l11) (
 let r13 : Bool := qc4 x2 l11
 cond (!r13) (
 some (.ret [.cl (.agg [.int .i64 0, .sli .u8 [], .slg 3 []]), .cl (.int .i64 0), .cl (.int .i64 5)] []))
 (
 let x14 : Int := IntKind.i64.wrap (x9 + r5)
 some (.ret [.cl (.agg [.int .i64 x2, .sli .u8 l11, .slg 3 []]), .cl (.int .i64 x14), .cl (.int .i64 0)] []))) none)
 (
 shut (qko rk
 (fun y15 y16 y17 y18 y19 y20 y21 y22 y23 y24 y25 y26 y27 y28 y29 y30 y31 y32 y33 y34 y35 y36 y37 y38 y39 y40 y41 y42 y43 y44 y45 y46 y47 y48 y49 y50 y51 y52 =>
 some (.ret [.cl (.agg [.int .i64 0, .sli .u8 [], .slg 3 []]), .cl (.int .i64 0), .cl (.int .i64 y16)] []))
 (fun y53 y54 y55 y56 y57 y58 y59 y60 y61 y62 y63 y64 =>
 cond (decide (y54 = 49)) (
 cond (qf0 y63) (
 let r65 : Bool := qbg y63
 cond (!r65) (
 some (.ret [.cl (.agg [.int .i64 0, .sli .u8 [], .slg 3 []]), .cl (.int .i64 0), .cl (.int .i64 6)] []))
 (
 let x66 : Int := IntKind.i64.wrap (y56 + y55)
 some (.ret [.cl (.agg [.int .i64 y61, .sli .u8 [], .slg 3 y64]), .cl (.int .i64 x66), .cl (.int .i64 0)] []))) none)
 (
 let x67 : Int := IntKind.i64.wrap (y56 + y55)
 some (.ret [.cl (.agg [.int .i64 y61, .sli .u8 [], .slg 3 y64]), .cl (.int .i64 x67), .cl (.int .i64 0)] [])))
 FUEL) deep x2 r5 x9 l11 0 x2 0 [] [])) none) none) none))) none) none)) none))
noncomputable def EDMust : Env := {
 orc := fun _ => fun _ _ => Tree.fail
 pre := fun _ => fun _ _ => true
 glob := qca
 nt := 9
}
theorem loopsDMust : ∀ c, Tryd.f23.body = some c -> qaq Tryd.prog (EDMust) 40 c := by
 intro c hc
 cases hc
 exact qal _ (by kernel_rfl)
noncomputable def gDMust_0 (e : Int) : OO :=
 some (.ret [] [])
theorem gDMust_0_eq (e : Int) : qco Tryd.prog (EDMust) 40 false Tryd.f23 [.cl (.bool true), .cl (.int .i64 e)] [] = gDMust_0 e := by kernel_rfl
noncomputable def gDMust_1 (e : Int) : OO :=
 some (.pan (.iface 47 (.agg [.int .i64 e])) [])
theorem gDMust_1_eq (e : Int) : qco Tryd.prog (EDMust) 40 false Tryd.f23 [.cl (.bool false), .cl (.int .i64 e)] [] = gDMust_1 e := by kernel_rfl

noncomputable def EDNext : Env := {
 orc := fun g => cond (Nat.beq g 23) SDMust (fun _ _ => Tree.fail)
 pre := fun g => cond (Nat.beq g 23) qoj (fun _ _ => true)
 spl := fun g => cond (Nat.beq g 23) (some 0) (none)
 glob := qca
 nt := 27
}
theorem loopsDNext : ∀ c, Tryd.f30.body = some c -> qaq Tryd.prog (EDNext) 40 c := by
 intro c hc
 cases hc
 exact qal _ (by kernel_rfl)
noncomputable def gDNext (l : LI) (d : Int) : OO :=
 cond (decide ((0 : Int) < ((l.length : Nat) : Int))) (
 cond (decide ((0 : Int) < ((l.length : Nat) : Int))) (
 Option.bind (l[0]?) fun (e1 : Int) =>
 let x2 : Int := IntKind.i64.wrap e1
 cond (decide ((1 : Int) <= ((l.length : Nat) : Int))) (
 let l3 : LI := List.drop 1 l
 some (.ret [.cl (.int .i64 x2)] [some ⟨.var [.cl (.sli .u8 l3), .cl (.int .i64 d)], false⟩])) none) none)
 (
 cond (true) (
 some (.pan (.iface 47 (.agg [.int .i64 1])) [some ⟨.var [.cl (.sli .u8 l), .cl (.int .i64 d)], false⟩]))
 (
 cond (decide ((0 : Int) < ((l.length : Nat) : Int))) (
 Option.bind (l[0]?) fun (e4 : Int) =>
 let x5 : Int := IntKind.i64.wrap e4
 cond (decide ((1 : Int) <= ((l.length : Nat) : Int))) (
 let l6 : LI := List.drop 1 l
 some (.ret [.cl (.int .i64 x5)] [some ⟨.var [.cl (.sli .u8 l6), .cl (.int .i64 d)], false⟩])) none) none))
theorem gDNext_eq (l : LI) (d : Int) : qco Tryd.prog (EDNext) 40 false Tryd.f30 [.ptr 0 0 0] [⟨.var [.cl (.sli .u8 l), .cl (.int .i64 d)], false⟩] = gDNext l d := by kernel_rfl

abbrev qqo := Int -> Int -> Int -> Int -> LI -> Int -> OO
abbrev zDLength1 := Int -> Int -> Int -> Int -> Int -> Int -> LI -> Int -> OO
noncomputable def qgg (again : qqo) (k0 : zDLength1) (k1 : qqo) (v1 v2 v3 v4 : Int) (v5 : LI) (v6 : Int) : OO :=
 cond (decide (v4 < v3)) (
 let x4 : Int := IntKind.i64.wrap (v2 * 2 ^ 8)
 cond (qac v5) (
 cond (v5.isEmpty) (
 k0 v1 v2 v3 v4 v2 x4 v5 v6)
 (
 let r5 : Int := v5.headD 0
 let r6 : LI := v5.tail
 let x7 : Int := IntKind.i64.wrap ((BitVec.ofInt 64 x4 ||| BitVec.ofInt 64 r5).toNat)
 let x8 : Int := IntKind.i64.wrap (v4 + 1)
 again v1 x7 v3 x8 r6 v6)) none)
 (
 k1 v1 v2 v3 v4 v5 v6)
noncomputable def qcj (k0 : zDLength1) (k1 : qqo) : Nat -> Int -> Int -> Int -> Int -> LI -> Int -> OO
 | 0 => fun _ _ _ _ _ _ => none
 | n + 1 => qgg (qcj k0 k1 n) k0 k1
noncomputable def qhi (k : KT) : zDLength1 := fun y1 y2 y3 y4 y5 y6 y7 y8 => k (.pan (.iface 47 (.agg [.int .i64 1]))) ⟨[(0, .ptr 0 0 0), (3, qI y1), (4, qI y2), (18, qI y3), (19, qI y4), (20, qB true), (21, qI y5), (22, qI y6), (23, .ptr 0 0 0)], [(0, ⟨.var [qS y7, qI y8], false⟩)]⟩
noncomputable def qgj (k : KT) : qqo := fun y1 y2 y3 y4 y5 y6 => k (.exit 0) ⟨[(0, .ptr 0 0 0), (3, qI y1), (4, qI y2), (18, qI y3), (19, qI y4), (20, qB false)], [(0, ⟨.var [qS y5, qI y6], false⟩)]⟩
noncomputable def qr2 : St -> (KT) -> OO := fun σ k => match σ with
 | ⟨[(q1, .ptr q2 q3 q4), (q5, .cl (.int .i64 v1)), (q6, .cl (.int .i64 v2)), (q7, .cl (.int .i64 v3)), (q8, .cl (.int .i64 v4))], [(q9, ⟨.var [.cl (.sli .u8 v5), .cl (.int .i64 v6)], false⟩)]⟩ => cond (Nat.beq q1 0 && Nat.beq q2 0 && Nat.beq q3 0 && Nat.beq q4 0 && Nat.beq q5 3 && Nat.beq q6 4 && Nat.beq q7 18 && Nat.beq q8 19 && Nat.beq q9 0) (shut (qcj (qhi k) (qgj k) FUEL) v1 v2 v3 v4 v5 v6) none
 | _ => none
noncomputable def EDLength : Env := {
 orc := fun g => cond (Nat.beq g 23) SDMust (cond (Nat.beq g 30) SDNext (cond (Nat.beq g 40) qm8 (fun _ _ => Tree.fail)))
 pre := fun g => cond (Nat.beq g 23) qoj (cond (Nat.beq g 30) preDNext (cond (Nat.beq g 40) qj2 (fun _ _ => true)))
 byref := fun g => cond (Nat.beq g 30) ([0]) ([])
 spl := fun g => cond (Nat.beq g 23) (some 0) (none)
 live := fun r => cond (Nat.beq r 7) ([0, 3, 4, 18, 19]) ([])
 glob := qca
 nt := 35
 lp := fun r => cond (Nat.beq r 7) (some (qr2)) (none)
}
noncomputable def qho : Code := (Cd.fst (Cd.fst (Cd.snd (Cd.fst (Cd.snd (Cd.snd (Cd.snd (Cd.snd (Cd.snd (Tryd.f32.body.getD .skip))))))))))
theorem lpDLength_7_step (k : KT) (n : Nat) (v1 v2 v3 v4 : Int) (v5 : LI) (v6 : Int) : qbi (n + 1) (qa3 Tryd.prog (EDLength) 40 qho) (head (EDLength) 7) ⟨[(0, .ptr 0 0 0), (3, qI v1), (4, qI v2), (18, qI v3), (19, qI v4)], [(0, ⟨.var [qS v5, qI v6], false⟩)]⟩ k = qgg (fun v1 v2 v3 v4 v5 v6 => qbi n (qa3 Tryd.prog (EDLength) 40 qho) (head (EDLength) 7) ⟨[(0, .ptr 0 0 0), (3, qI v1), (4, qI v2), (18, qI v3), (19, qI v4)], [(0, ⟨.var [qS v5, qI v6], false⟩)]⟩ k) (qhi k) (qgj k) v1 v2 v3 v4 v5 v6 := by kernel_rfl
theorem qmw (k : KT) : ∀ (n : Nat), ∀ (v1 v2 v3 v4 : Int) (v5 : LI) (v6 : Int), qbi n (qa3 Tryd.prog (EDLength) 40 qho) (head (EDLength) 7) ⟨[(0, .ptr 0 0 0), (3, qI v1), (4, qI v2), (18, qI v3), (19, qI v4)], [(0, ⟨.var [qS v5, qI v6], false⟩)]⟩ k = qcj (qhi k) (qgj k) n v1 v2 v3 v4 v5 v6
 | 0 => by intros; rfl
 | n + 1 => by
  intros
  rw [lpDLength_7_step]
  have ih := qmw k n
  simp only [qcj, ih]
theorem LDLength_7_ok : ∀ (σ : St) (k : KT) (r : Out), qr2 σ k = some r -> ∃ n, qbi n (qa3 Tryd.prog (EDLength) 40 qho) (head (EDLength) 7) σ k = some r := by
 intro σ k r h
 unfold qr2 at h
 split at h
 ·replace h := qaa h
  obtain ⟨hc, h⟩ := h
  simp only [Bool.and_eq_true, qbb, decide_eq_true_eq, Bool.not_eq_true'] at hc
  obtain ⟨⟨⟨⟨⟨⟨⟨⟨rfl, rfl⟩, rfl⟩, rfl⟩, rfl⟩, rfl⟩, rfl⟩, rfl⟩, rfl⟩ := hc
  rw [qae] at h
  exact ⟨FUEL, (qmw k FUEL _ _ _ _ _ _ ).trans h⟩
 ·cases h
theorem loopsDLength : ∀ c, Tryd.f32.body = some c -> qaq Tryd.prog (EDLength) 40 c := by
 intro c hc
 cases hc
 exact ⟨trivial, ⟨trivial, ⟨qal _ (by kernel_rfl), ⟨trivial, ⟨trivial, ⟨⟨trivial, ⟨qal _ (by kernel_rfl), qcc rfl (LDLength_7_ok)⟩, qag rfl⟩, qal _ (by kernel_rfl), qag rfl⟩, qag rfl⟩, qag rfl⟩, qag rfl⟩, qag rfl⟩, qag rfl⟩
noncomputable def gDLength (l : LI) (d : Int) : OO :=
 cond (qac l) (
 cond (l.isEmpty) (
 some (.pan (.iface 47 (.agg [.int .i64 1])) [some ⟨.var [.cl (.sli .u8 l), .cl (.int .i64 d)], false⟩]))
 (
 let r1 : Int := l.headD 0
 let r2 : LI := l.tail
 cond (decide (r1 < 128)) (
 some (.ret [.cl (.int .i64 r1)] [some ⟨.var [.cl (.sli .u8 r2), .cl (.int .i64 d)], false⟩]))
 (
 cond (decide ((128 : Int) < r1)) (
 cond (decide (r1 <= 131)) (
 let x3 : Int := IntKind.i64.wrap (r1 - 128)
 shut (qcj
 (fun y4 y5 y6 y7 y8 y9 y10 y11 =>
 some (.pan (.iface 47 (.agg [.int .i64 1])) [some ⟨.var [.cl (.sli .u8 y10), .cl (.int .i64 y11)], false⟩]))
 (fun y12 y13 y14 y15 y16 y17 =>
 let r18 : Int := qbs y13
 let x19 : Int := IntKind.i64.wrap ((1 : Int) + y12)
 let x20 : Int := IntKind.i64.wrap (x19 - 128)
 cond (decide (r18 = x20)) (
 some (.ret [.cl (.int .i64 y13)] [some ⟨.var [.cl (.sli .u8 y16), .cl (.int .i64 y17)], false⟩]))
 (
 cond (true) (
 some (.pan (.iface 47 (.agg [.int .i64 1])) [some ⟨.var [.cl (.sli .u8 y16), .cl (.int .i64 y17)], false⟩]))
 (
 some (.ret [.cl (.int .i64 y13)] [some ⟨.var [.cl (.sli .u8 y16), .cl (.int .i64 y17)], false⟩]))))
 FUEL) r1 0 x3 0 r2 d)
 (
 cond (true) (
 some (.pan (.iface 47 (.agg [.int .i64 1])) [some ⟨.var [.cl (.sli .u8 r2), .cl (.int .i64 d)], false⟩]))
 (
 let x21 : Int := IntKind.i64.wrap (r1 - 128)
 shut (qcj
 (fun y22 y23 y24 y25 y26 y27 y28 y29 =>
 some (.pan (.iface 47 (.agg [.int .i64 1])) [some ⟨.var [.cl (.sli .u8 y28), .cl (.int .i64 y29)], false⟩]))
 (fun y30 y31 y32 y33 y34 y35 =>
 let r36 : Int := qbs y31
 let x37 : Int := IntKind.i64.wrap ((1 : Int) + y30)
 let x38 : Int := IntKind.i64.wrap (x37 - 128)
 cond (decide (r36 = x38)) (
 some (.ret [.cl (.int .i64 y31)] [some ⟨.var [.cl (.sli .u8 y34), .cl (.int .i64 y35)], false⟩]))
 (
 cond (true) (
 some (.pan (.iface 47 (.agg [.int .i64 1])) [some ⟨.var [.cl (.sli .u8 y34), .cl (.int .i64 y35)], false⟩]))
 (
 some (.ret [.cl (.int .i64 y31)] [some ⟨.var [.cl (.sli .u8 y34), .cl (.int .i64 y35)], false⟩]))))
 FUEL) r1 0 x21 0 r2 d)))
 (
 cond (true) (
 some (.pan (.iface 47 (.agg [.int .i64 1])) [some ⟨.var [.cl (.sli .u8 r2), .cl (.int .i64 d)], false⟩]))
 (
 let x39 : Int := IntKind.i64.wrap (r1 - 128)
 shut (qcj
 (fun y40 y41 y42 y43 y44 y45 y46 y47 =>
 some (.pan (.iface 47 (.agg [.int .i64 1])) [some ⟨.var [.cl (.sli .u8 y46), .cl (.int .i64 y47)], false⟩]))
 (fun y48 y49 y50 y51 y52 y53 =>
 let r54 : Int := qbs y49
 let x55 : Int := IntKind.i64.wrap ((1 : Int) + y48)
 let x56 : Int := IntKind.i64.wrap (x55 - 128)
 cond (decide (r54 = x56)) (
 some (.ret [.cl (.int .i64 y49)] [some ⟨.var [.cl (.sli .u8 y52), .cl (.int .i64 y53)], false⟩]))
 (
 cond (true) (
 some (.pan (.iface 47 (.agg [.int .i64 1])) [some ⟨.var [.cl (.sli .u8 y52), .cl (.int .i64 y53)], false⟩]))
 (
 some (.ret [.cl (.int .i64 y49)] [some ⟨.var [.cl (.sli .u8 y52), .cl (.int .i64 y53)], false⟩]))))
 FUEL) r1 0 x39 0 r2 d))))) none
theorem gDLength_eq (l : LI) (d : Int) : qco Tryd.prog (EDLength) 40 false Tryd.f32 [.ptr 0 0 0] [⟨.var [.cl (.sli .u8 l), .cl (.int .i64 d)], false⟩] = gDLength l d := by kernel_rfl

noncomputable def EDValue (rk : Nat) : Env := {
 orc := fun g => cond (Nat.beq g 18) SDBoxed (cond (Nat.beq g 23) SDMust (cond (Nat.beq g 30) SDNext (cond (Nat.beq g 31) SDKnown (cond (Nat.beq g 32) SDLength (cond (Nat.beq g 33) SDParts (cond (Nat.beq g 34) SDFits (cond (Nat.beq g 35) SSClone (fun _ _ => Tree.fail))))))))
 pre := fun g => cond (Nat.beq g 18) qma (cond (Nat.beq g 23) qoj (cond (Nat.beq g 30) preDNext (cond (Nat.beq g 31) preDKnown (cond (Nat.beq g 32) preDLength (cond (Nat.beq g 33) (preRDParts (rk)) (cond (Nat.beq g 34) preDFits (cond (Nat.beq g 35) preSClone (fun _ _ => true))))))))
 byref := fun g => cond (Nat.beq g 30) ([0]) (cond (Nat.beq g 32) ([0]) (cond (Nat.beq g 33) ([0]) ([])))
 spl := fun g => cond (Nat.beq g 23) (some 0) (none)
 glob := qca
 nt := 56
}
theorem loopsDValue (rk : Nat) : ∀ c, Tryd.f22.body = some c -> qaq Tryd.prog (EDValue rk) 40 c := by
 intro c hc
 cases hc
 exact qal _ (by kernel_rfl)
noncomputable def gDValue (rk : Nat) (l : LI) (d : Int) : OO :=
 cond (decide ((0 : Int) < d)) (
 cond (qac l) (
 cond (l.isEmpty) (
 some (.pan (.iface 47 (.agg [.int .i64 1])) [some ⟨.var [.cl (.sli .u8 l), .cl (.int .i64 d)], false⟩]))
 (
 let r1 : Int := l.headD 0
 let r2 : LI := l.tail
 let r3 : Bool := qcv r1
 cond (r3) (
 cond (qac r2) (
 cond (!(qpm r2)) (
 let r4 : LI := qfd r2
 some (.pan (.iface 47 (.agg [.int .i64 1])) [some ⟨.var [.cl (.sli .u8 r4), .cl (.int .i64 d)], false⟩]))
 (
 let r5 : Int := (qdj r2).1
 let r6 : LI := (qdj r2).2
 cond (decide (r5 <= ((r6.length : Nat) : Int))) (
 cond (decide ((0 : Int) <= r5)) (
 cond (decide (r5 <= ((r6.length : Nat) : Int))) (
 let l7 : LI := List.take (Int.toNat r5) r6
 cond (decide ((0 : Int) <= r5)) (
 cond (decide (r5 <= ((r6.length : Nat) : Int))) (
 let l8 : LI := List.drop (Int.toNat r5) r6
 let r9 : Bool := qbe r1
 cond (r9) (
 cond (qac l7 && (qb9 d && decide (0 < d /\ d.toNat < rk + 1))) (
 cond (!(decide ((qa6 r1 l7 d).1 = 0))) (
 let r10 : Int := (qa6 r1 l7 d).1
 some (.pan (.iface 47 (.agg [.int .i64 r10])) [some ⟨.var [.cl (.sli .u8 l8), .cl (.int .i64 d)], false⟩]))
 (
 let r11 : Int := (qa6 r1 l7 d).2.1
 let r12 : LI := (qa6 r1 l7 d).2.2.1
 let r13 : LC := (qa6 r1 l7 d).2.2.2
 some (.ret [.cl (.agg [.int .i64 r11, .sli .u8 r12, .slg 3 r13])] [some ⟨.var [.cl (.sli .u8 l8), .cl (.int .i64 d)], false⟩]))) none)
 (
 cond (qac l7) (
 let r14 : Bool := qc4 r1 l7
 cond (r14) (
 cond (qid l7) (
 some (.ret [.cl (.agg [.int .i64 r1, .sli .u8 l7, .slg 3 []])] [some ⟨.var [.cl (.sli .u8 l8), .cl (.int .i64 d)], false⟩])) none)
 (
 cond (true) (
 some (.pan (.iface 47 (.agg [.int .i64 5])) [some ⟨.var [.cl (.sli .u8 l8), .cl (.int .i64 d)], false⟩]))
 (
 cond (qid l7) (
 some (.ret [.cl (.agg [.int .i64 r1, .sli .u8 l7, .slg 3 []])] [some ⟨.var [.cl (.sli .u8 l8), .cl (.int .i64 d)], false⟩])) none))) none)) none) none) none) none)
 (
 cond (true) (
 some (.pan (.iface 47 (.agg [.int .i64 1])) [some ⟨.var [.cl (.sli .u8 r6), .cl (.int .i64 d)], false⟩]))
 (
 cond (decide ((0 : Int) <= r5)) (
 cond (decide (r5 <= ((r6.length : Nat) : Int))) (
 let l15 : LI := List.take (Int.toNat r5) r6
 cond (decide ((0 : Int) <= r5)) (
 cond (decide (r5 <= ((r6.length : Nat) : Int))) (
 let l16 : LI := List.drop (Int.toNat r5) r6
 let r17 : Bool := qbe r1
 cond (r17) (
 cond (qac l15 && (qb9 d && decide (0 < d /\ d.toNat < rk + 1))) (
 cond (!(decide ((qa6 r1 l15 d).1 = 0))) (
 let r18 : Int := (qa6 r1 l15 d).1
 some (.pan (.iface 47 (.agg [.int .i64 r18])) [some ⟨.var [.cl (.sli .u8 l16), .cl (.int .i64 d)], false⟩]))
 (
 let r19 : Int := (qa6 r1 l15 d).2.1
 let r20 : LI := (qa6 r1 l15 d).2.2.1
 let r21 : LC := (qa6 r1 l15 d).2.2.2
 some (.ret [.cl (.agg [.int .i64 r19, .sli .u8 r20, .slg 3 r21])] [some ⟨.var [.cl (.sli .u8 l16), .cl (.int .i64 d)], false⟩]))) none)
 (
 cond (qac l15) (
 let r22 : Bool := qc4 r1 l15
 cond (r22) (
 cond (qid l15) (
 some (.ret [.cl (.agg [.int .i64 r1, .sli .u8 l15, .slg 3 []])] [some ⟨.var [.cl (.sli .u8 l16), .cl (.int .i64 d)], false⟩])) none)
 (
 cond (true) (
 some (.pan (.iface 47 (.agg [.int .i64 5])) [some ⟨.var [.cl (.sli .u8 l16), .cl (.int .i64 d)], false⟩]))
 (
 cond (qid l15) (
 some (.ret [.cl (.agg [.int .i64 r1, .sli .u8 l15, .slg 3 []])] [some ⟨.var [.cl (.sli .u8 l16), .cl (.int .i64 d)], false⟩])) none))) none)) none) none) none) none)))) none)
 (
 cond (true) (
 some (.pan (.iface 47 (.agg [.int .i64 4])) [some ⟨.var [.cl (.sli .u8 r2), .cl (.int .i64 d)], false⟩]))
 (
 cond (qac r2) (
 cond (!(qpm r2)) (
 let r23 : LI := qfd r2
 some (.pan (.iface 47 (.agg [.int .i64 1])) [some ⟨.var [.cl (.sli .u8 r23), .cl (.int .i64 d)], false⟩]))
 (
 let r24 : Int := (qdj r2).1
 let r25 : LI := (qdj r2).2
 cond (decide (r24 <= ((r25.length : Nat) : Int))) (
 cond (decide ((0 : Int) <= r24)) (
 cond (decide (r24 <= ((r25.length : Nat) : Int))) (
 let l26 : LI := List.take (Int.toNat r24) r25
 cond (decide ((0 : Int) <= r24)) (
 cond (decide (r24 <= ((r25.length : Nat) : Int))) (
 let l27 : LI := List.drop (Int.toNat r24) r25
 let r28 : Bool := qbe r1
 cond (r28) (
 cond (qac l26 && (qb9 d && decide (0 < d /\ d.toNat < rk + 1))) (
 cond (!(decide ((qa6 r1 l26 d).1 = 0))) (
 let r29 : Int := (qa6 r1 l26 d).1
 some (.pan (.iface 47 (.agg [.int .i64 r29])) [some ⟨.var [.cl (.sli .u8 l27), .cl (.int .i64 d)], false⟩]))
 (
 let r30 : Int := (qa6 r1 l26 d).2.1
 let r31 : LI := (qa6 r1 l26 d).2.2.1
 let r32 : LC := (qa6 r1 l26 d).2.2.2
 some (.ret [.cl (.agg [.int .i64 r30, .sli .u8 r31, .slg 3 r32])] [some ⟨.var [.cl (.sli .u8 l27), .cl (.int .i64 d)], false⟩]))) none)
 (
 cond (qac l26) (
 let r33 : Bool := qc4 r1 l26
 cond (r33) (
 cond (qid l26) (
 some (.ret [.cl (.agg [.int .i64 r1, .sli .u8 l26, .slg 3 []])] [some ⟨.var [.cl (.sli .u8 l27), .cl (.int .i64 d)], false⟩])) none)
 (
 cond (true) (
 some (.pan (.iface 47 (.agg [.int .i64 5])) [some ⟨.var [.cl (.sli .u8 l27), .cl (.int .i64 d)], false⟩]))
 (
 cond (qid l26) (
 some (.ret [.cl (.agg [.int .i64 r1, .sli .u8 l26, .slg 3 []])] [some ⟨.var [.cl (.sli .u8 l27), .cl (.int .i64 d)], false⟩])) none))) none)) none) none) none) none)
 (
 cond (true) (
 some (.pan (.iface 47 (.agg [.int .i64 1])) [some ⟨.var [.cl (.sli .u8 r25), .cl (.int .i64 d)], false⟩]))
 (
 cond (decide ((0 : Int) <= r24)) (
 cond (decide (r24 <= ((r25.length : Nat) : Int))) (
 let l34 : LI := List.take (Int.toNat r24) r25
 cond (decide ((0 : Int) <= r24)) (
 cond (decide (r24 <= ((r25.length : Nat) : Int))) (
 let l35 : LI := List.drop (Int.toNat r24) r25
 let r36 : Bool := qbe r1
 cond (r36) (
 cond (qac l34 && (qb9 d && decide (0 < d /\ d.toNat < rk + 1))) (
 cond (!(decide ((qa6 r1 l34 d).1 = 0))) (
 let r37 : Int := (qa6 r1 l34 d).1
 some (.pan (.iface 47 (.agg [.int .i64 r37])) [some ⟨.var [.cl (.sli .u8 l35), .cl (.int .i64 d)], false⟩]))
 (
 let r38 : Int := (qa6 r1 l34 d).2.1
 let r39 : LI := (qa6 r1 l34 d).2.2.1
 let r40 : LC := (qa6 r1 l34 d).2.2.2
 some (.ret [.cl (.agg [.int .i64 r38, .sli .u8 r39, .slg 3 r40])] [some ⟨.var [.cl (.sli .u8 l35), .cl (.int .i64 d)], false⟩]))) none)
 (
 cond (qac l34) (
 let r41 : Bool := qc4 r1 l34
 cond (r41) (
 cond (qid l34) (
 some (.ret [.cl (.agg [.int .i64 r1, .sli .u8 l34, .slg 3 []])] [some ⟨.var [.cl (.sli .u8 l35), .cl (.int .i64 d)], false⟩])) none)
 (
 cond (true) (
 some (.pan (.iface 47 (.agg [.int .i64 5])) [some ⟨.var [.cl (.sli .u8 l35), .cl (.int .i64 d)], false⟩]))
 (
 cond (qid l34) (
 some (.ret [.cl (.agg [.int .i64 r1, .sli .u8 l34, .slg 3 []])] [some ⟨.var [.cl (.sli .u8 l35), .cl (.int .i64 d)], false⟩])) none))) none)) none) none) none) none)))) none)))) none)
 (
 cond (true) (
 some (.pan (.iface 47 (.agg [.int .i64 3])) [some ⟨.var [.cl (.sli .u8 l), .cl (.int .i64 d)], false⟩]))
 (
 cond (qac l) (
 cond (l.isEmpty) (
 some (.pan (.iface 47 (.agg [.int .i64 1])) [some ⟨.var [.cl (.sli .u8 l), .cl (.int .i64 d)], false⟩]))
 (
 let r42 : Int := l.headD 0
 let r43 : LI := l.tail
 let r44 : Bool := qcv r42
 cond (r44) (
 cond (qac r43) (
 cond (!(qpm r43)) (
 let r45 : LI := qfd r43
 some (.pan (.iface 47 (.agg [.int .i64 1])) [some ⟨.var [.cl (.sli .u8 r45), .cl (.int .i64 d)], false⟩]))
 (
 let r46 : Int := (qdj r43).1
 let r47 : LI := (qdj r43).2
 cond (decide (r46 <= ((r47.length : Nat) : Int))) (
 cond (decide ((0 : Int) <= r46)) (
 cond (decide (r46 <= ((r47.length : Nat) : Int))) (
 let l48 : LI := List.take (Int.toNat r46) r47
 cond (decide ((0 : Int) <= r46)) (
 cond (decide (r46 <= ((r47.length : Nat) : Int))) (
 let l49 : LI := List.drop (Int.toNat r46) r47
 let r50 : Bool := qbe r42
 cond (r50) (
 cond (qac l48 && (qb9 d && decide (0 < d /\ d.toNat < rk + 1))) (
 cond (!(decide ((qa6 r42 l48 d).1 = 0))) (
 let r51 : Int := (qa6 r42 l48 d).1
 some (.pan (.iface 47 (.agg [.int .i64 r51])) [some ⟨.var [.cl (.sli .u8 l49), .cl (.int .i64 d)], false⟩]))
 (
 let r52 : Int := (qa6 r42 l48 d).2.1
 let r53 : LI := (qa6 r42 l48 d).2.2.1
 let r54 : LC := (qa6 r42 l48 d).2.2.2
 some (.ret [.cl (.agg [.int .i64 r52, .sli .u8 r53, .slg 3 r54])] [some ⟨.var [.cl (.sli .u8 l49), .cl (.int .i64 d)], false⟩]))) none)
 (
 cond (qac l48) (
 let r55 : Bool := qc4 r42 l48
 cond (r55) (
 cond (qid l48) (
 some (.ret [.cl (.agg [.int .i64 r42, .sli .u8 l48, .slg 3 []])] [some ⟨.var [.cl (.sli .u8 l49), .cl (.int .i64 d)], false⟩])) none)
 (
 cond (true) (
 some (.pan (.iface 47 (.agg [.int .i64 5])) [some ⟨.var [.cl (.sli .u8 l49), .cl (.int .i64 d)], false⟩]))
 (
 cond (qid l48) (
 some (.ret [.cl (.agg [.int .i64 r42, .sli .u8 l48, .slg 3 []])] [some ⟨.var [.cl (.sli .u8 l49), .cl (.int .i64 d)], false⟩])) none))) none)) none) none) none) none)
 (
 cond (true) (
 some (.pan (.iface 47 (.agg [.int .i64 1])) [some ⟨.var [.cl (.sli .u8 r47), .cl (.int .i64 d)], false⟩]))
 (
 cond (decide ((0 : Int) <= r46)) (
 cond (decide (r46 <= ((r47.length : Nat) : Int))) (
 let l56 : LI := List.take (Int.toNat r46) r47
 cond (decide ((0 : Int) <= r46)) (
 cond (decide (r46 <= ((r47.length : Nat) : Int))) (
 let l57 : LI := List.drop (Int.toNat r46) r47
 let r58 : Bool := qbe r42
 cond (r58) (
 cond (qac l56 && (qb9 d && decide (0 < d /\ d.toNat < rk + 1))) (
 cond (!(decide ((qa6 r42 l56 d).1 = 0))) (
 let r59 : Int := (qa6 r42 l56 d).1
 some (.pan (.iface 47 (.agg [.int .i64 r59])) [some ⟨.var [.cl (.sli .u8 l57), .cl (.int .i64 d)], false⟩]))
 (
 let r60 : Int := (qa6 r42 l56 d).2.1
 let r61 : LI := (qa6 r42 l56 d).2.2.1
 let r62 : LC := (qa6 r42 l56 d).2.2.2
 some (.ret [.cl (.agg [.int .i64 r60, .sli .u8 r61, .slg 3 r62])] [some ⟨.var [.cl (.sli .u8 l57), .cl (.int .i64 d)], false⟩]))) none)
 (
 cond (qac l56) (
 let r63 : Bool := qc4 r42 l56
 cond (r63) (
 cond (qid l56) (
 some (.ret [.cl (.agg [.int .i64 r42, .sli .u8 l56, .slg 3 []])] [some ⟨.var [.cl (.sli .u8 l57), .cl (.int .i64 d)], false⟩])) none)
 (
 cond (true) (
 some (.pan (.iface 47 (.agg [.int .i64 5])) [some ⟨.var [.cl (.sli .u8 l57), .cl (.int .i64 d)], false⟩]))
 (
 cond (qid l56) (
 some (.ret [.cl (.agg [.int .i64 r42, .sli .u8 l56, .slg 3 []])] [some ⟨.var [.cl (.sli .u8 l57), .cl (.int .i64 d)], false⟩])) none))) none)) none) none) none) none)))) none)
 (
 cond (true) (
 some (.pan (.iface 47 (.agg [.int .i64 4])) [some ⟨.var [.cl (.sli .u8 r43), .cl (.int .i64 d)], false⟩]))
 (
 cond (qac r43) (
 cond (!(qpm r43)) (
 let r64 : LI := qfd r43
 some (.pan (.iface 47 (.agg [.int .i64 1])) [some ⟨.var [.cl (.sli .u8 r64), .cl (.int .i64 d)], false⟩]))
 (
 let r65 : Int := (qdj r43).1
 let r66 : LI := (qdj r43).2
 cond (decide (r65 <= ((r66.length : Nat) : Int))) (
 cond (decide ((0 : Int) <= r65)) (
 cond (decide (r65 <= ((r66.length : Nat) : Int))) (
 let l67 : LI := List.take (Int.toNat r65) r66
 cond (decide ((0 : Int) <= r65)) (
 cond (decide (r65 <= ((r66.length : Nat) : Int))) (
 let l68 : LI := List.drop (Int.toNat r65) r66
 let r69 : Bool := qbe r42
 cond (r69) (
 cond (qac l67 && (qb9 d && decide (0 < d /\ d.toNat < rk + 1))) (
 cond (!(decide ((qa6 r42 l67 d).1 = 0))) (
 let r70 : Int := (qa6 r42 l67 d).1
 some (.pan (.iface 47 (.agg [.int .i64 r70])) [some ⟨.var [.cl (.sli .u8 l68), .cl (.int .i64 d)], false⟩]))
 (
 let r71 : Int := (qa6 r42 l67 d).2.1
 let r72 : LI := (qa6 r42 l67 d).2.2.1
 let r73 : LC := (qa6 r42 l67 d).2.2.2
 some (.ret [.cl (.agg [.int .i64 r71, .sli .u8 r72, .slg 3 r73])] [some ⟨.var [.cl (.sli .u8 l68), .cl (.int .i64 d)], false⟩]))) none)
 (
 cond (qac l67) (
 let r74 : Bool := qc4 r42 l67
 cond (r74) (
 cond (qid l67) (
 some (.ret [.cl (.agg [.int .i64 r42, .sli .u8 l67, .slg 3 []])] [some ⟨.var [.cl (.sli .u8 l68), .cl (.int .i64 d)], false⟩])) none)
 (
 cond (true) (
 some (.pan (.iface 47 (.agg [.int .i64 5])) [some ⟨.var [.cl (.sli .u8 l68), .cl (.int .i64 d)], false⟩]))
 (
 cond (qid l67) (
 some (.ret [.cl (.agg [.int .i64 r42, .sli .u8 l67, .slg 3 []])] [some ⟨.var [.cl (.sli .u8 l68), .cl (.int .i64 d)], false⟩])) none))) none)) none) none) none) none)
 (
 cond (true) (
 some (.pan (.iface 47 (.agg [.int .i64 1])) [some ⟨.var [.cl (.sli .u8 r66), .cl (.int .i64 d)], false⟩]))
 (
 cond (decide ((0 : Int) <= r65)) (
 cond (decide (r65 <= ((r66.length : Nat) : Int))) (
 let l75 : LI := List.take (Int.toNat r65) r66
 cond (decide ((0 : Int) <= r65)) (
 cond (decide (r65 <= ((r66.length : Nat) : Int))) (
 let l76 : LI := List.drop (Int.toNat r65) r66
 let r77 : Bool := qbe r42
 cond (r77) (
 cond (qac l75 && (qb9 d && decide (0 < d /\ d.toNat < rk + 1))) (
 cond (!(decide ((qa6 r42 l75 d).1 = 0))) (
 let r78 : Int := (qa6 r42 l75 d).1
 some (.pan (.iface 47 (.agg [.int .i64 r78])) [some ⟨.var [.cl (.sli .u8 l76), .cl (.int .i64 d)], false⟩]))
 (
 let r79 : Int := (qa6 r42 l75 d).2.1
 let r80 : LI := (qa6 r42 l75 d).2.2.1
 let r81 : LC := (qa6 r42 l75 d).2.2.2
 some (.ret [.cl (.agg [.int .i64 r79, .sli .u8 r80, .slg 3 r81])] [some ⟨.var [.cl (.sli .u8 l76), .cl (.int .i64 d)], false⟩]))) none)
 (
 cond (qac l75) (
 let r82 : Bool := qc4 r42 l75
 cond (r82) (
 cond (qid l75) (
 some (.ret [.cl (.agg [.int .i64 r42, .sli .u8 l75, .slg 3 []])] [some ⟨.var [.cl (.sli .u8 l76), .cl (.int .i64 d)], false⟩])) none)
 (
 cond (true) (
 some (.pan (.iface 47 (.agg [.int .i64 5])) [some ⟨.var [.cl (.sli .u8 l76), .cl (.int .i64 d)], false⟩]))
 (
 cond (qid l75) (
 some (.ret [.cl (.agg [.int .i64 r42, .sli .u8 l75, .slg 3 []])] [some ⟨.var [.cl (.sli .u8 l76), .cl (.int .i64 d)], false⟩])) none))) none)) none) none) none) none)))) none)))) none))
theorem gDValue_eq (rk : Nat) (l : LI) (d : Int) : qco Tryd.prog (EDValue rk) 40 false Tryd.f22 [.ptr 0 0 0] [⟨.var [.cl (.sli .u8 l), .cl (.int .i64 d)], false⟩] = gDValue rk l d := by kernel_rfl

abbrev zDParts0 := Int -> Nat -> LI -> Int -> LI -> Int -> Int -> Nat -> LC -> LI -> Int -> LC -> OO
noncomputable def qj0 (rk : Nat) (again : Int -> Nat -> LI -> Int -> Int -> Nat -> LC -> LI -> Int -> LC -> OO) (k0 : Int -> LI -> Int -> OO) (k1 : zDParts0) (v1 : Int) (v2 : Nat) (v3 : LI) (v4 v5 : Int) (v6 : Nat) (v7 : LC) (v8 : LI) (v9 : Int) (v10 : LC) : OO :=
 cond (decide ((0 : Int) < ((v8.length : Nat) : Int))) (
 cond (qac v8 && (qb9 v9 && decide (v9.toNat < rk))) (
 cond (!(decide ((qk9 v8 v9).1 = 0))) (
 let r2 : Int := (qk9 v8 v9).1
 k0 r2 v3 v4)
 (
 let r4 : Int := (qk9 v8 v9).2.1.1
 let r5 : LI := (qk9 v8 v9).2.1.2.1
 let r6 : LC := (qk9 v8 v9).2.1.2.2
 let r7 : LI := (qk9 v8 v9).2.2
 let l8 : LC := v10 ++ ([.agg [.int .i64 r4, .sli .u8 r5, .slg 3 r6]])
 cond (decide (((l8.length : Nat) : Int) * 56 <= LIM)) (
 cond (decide (((l8.length : Nat) : Int) <= LIM)) (
 let x9 : Int := IntKind.i64.wrap (((v8.length : Nat) : Int) - ((r7.length : Nat) : Int))
 cond (decide ((0 : Int) <= x9)) (
 cond (decide (x9 <= ((v8.length : Nat) : Int))) (
 let l10 : LI := List.take (Int.toNat x9) v8
 let l11 : LC := v7 ++ [.sli .u8 l10]
 cond (decide (((l11.length : Nat) : Int) * 24 <= LIM)) (
 cond (decide (((l11.length : Nat) : Int) <= LIM)) (
 again v1 l11.length v3 v4 v5 l8.length l11 r7 v9 l8) none) none) none) none) none) none)) none)
 (
 k1 v1 v2 v8 ((v8.length : Nat) : Int) v3 v4 v5 v6 v7 v8 v9 v10)
noncomputable def qe6 (rk : Nat) (k0 : Int -> LI -> Int -> OO) (k1 : zDParts0) : Nat -> Int -> Nat -> LI -> Int -> Int -> Nat -> LC -> LI -> Int -> LC -> OO
 | 0 => fun _ _ _ _ _ _ _ _ _ _ => none
 | n + 1 => qj0 rk (qe6 rk k0 k1 n) k0 k1
noncomputable def qjc (k : KT) : Int -> LI -> Int -> OO := fun y1 y2 y3 => k (.pan (.iface 47 (.agg [.int .i64 y1]))) ⟨[], [(0, ⟨.var [qS y2, qI y3], false⟩)]⟩
noncomputable def qjp (k : KT) : zDParts0 := fun y1 y2 y3 y4 y5 y6 y7 y8 y9 y10 y11 y12 => k (.exit 0) ⟨[(0, .ptr 0 0 0), (1, qI y1), (6, .ptr 70 0 0), (7, .ptr 71 0 0), (8, .ref 72 0 y2 true 1), (9, .ptr 84 0 0), (21, .ptr 84 0 0), (22, .ptr 84 0 0), (23, .ptr 84 0 0), (24, qS y3), (25, qI y4), (26, qB false)], [(0, ⟨.var [qS y5, qI y6], false⟩), (70, ⟨.var [qI 0, .nils, .nils], false⟩), (71, ⟨.var [qI y7, .nils, .ref 100 0 y8 true 3], false⟩), (72, ⟨.gen 1 y9, false⟩), (84, ⟨.var [qS y10, qI y11], false⟩), (100, ⟨.gen 3 y12, false⟩)]⟩
noncomputable def LDParts_4 (rk : Nat) : St -> (KT) -> OO := fun σ k => match σ with
 | ⟨[(q1, .ptr q2 q3 q4), (q5, .cl (.int .i64 v1)), (q6, .ptr q7 q8 q9), (q10, .ptr q11 q12 q13), (q14, .ref q15 q16 v2 true q17), (q18, .ptr q19 q20 q21)], [(q22, ⟨.var [.cl (.sli .u8 v3), .cl (.int .i64 v4)], false⟩), (q23, ⟨.var [.cl (.int .i64 q24), .nils, .nils], false⟩), (q25, ⟨.var [.cl (.int .i64 v5), .nils, .ref q26 q27 v6 true q28], false⟩), (q29, ⟨.gen q30 v7, false⟩), (q31, ⟨.var [.cl (.sli .u8 v8), .cl (.int .i64 v9)], false⟩), (q32, ⟨.gen q33 v10, false⟩)]⟩ => cond (Nat.beq q1 0 && Nat.beq q2 0 && Nat.beq q3 0 && Nat.beq q4 0 && Nat.beq q5 1 && Nat.beq q6 6 && Nat.beq q7 70 && Nat.beq q8 0 && Nat.beq q9 0 && Nat.beq q10 7 && Nat.beq q11 71 && Nat.beq q12 0 && Nat.beq q13 0 && Nat.beq q14 8 && Nat.beq q15 72 && Nat.beq q16 0 && Nat.beq q17 1 && Nat.beq q18 9 && Nat.beq q19 84 && Nat.beq q20 0 && Nat.beq q21 0 && Nat.beq q22 0 && Nat.beq q23 70 && decide (q24 = 0) && Nat.beq q25 71 && Nat.beq q26 100 && Nat.beq q27 0 && Nat.beq q28 3 && Nat.beq q29 72 && Nat.beq q30 1 && Nat.beq q31 84 && Nat.beq q32 100 && Nat.beq q33 3) (shut (qe6 rk (qjc k) (qjp k) FUEL) v1 v2 v3 v4 v5 v6 v7 v8 v9 v10) none
 | _ => none
noncomputable def EDParts (rk : Nat) : Env := {
 orc := fun g => cond (Nat.beq g 22) SDValue (cond (Nat.beq g 23) SDMust (cond (Nat.beq g 42) SOSorted (fun _ _ => Tree.fail)))
 pre := fun g => cond (Nat.beq g 22) (qjf (rk)) (cond (Nat.beq g 23) qoj (cond (Nat.beq g 42) qse (fun _ _ => true)))
 byref := fun g => cond (Nat.beq g 22) ([0]) ([])
 spl := fun g => cond (Nat.beq g 23) (some 0) (none)
 live := fun r => cond (Nat.beq r 4) ([0, 1, 6, 7, 8, 9]) ([])
 ren := fun r => cond (Nat.beq r 4) ([(114, 72)]) ([])
 vir := fun r => cond (Nat.beq r 4) ([(71, 2, 100, .gen 3 [])]) ([])
 glob := qca
 nt := 59
 lp := fun r => cond (Nat.beq r 4) (some (LDParts_4 rk)) (none)
}
noncomputable def qk5 : Code := (Cd.fst (Cd.fst (Cd.fst (Cd.snd (Cd.snd (Cd.snd (Cd.snd (Tryd.f33.body.getD .skip))))))))
theorem lpDParts_4_step (rk : Nat) (k : KT) (n : Nat) (v1 : Int) (v2 : Nat) (v3 : LI) (v4 v5 : Int) (v6 : Nat) (v7 : LC) (v8 : LI) (v9 : Int) (v10 : LC) : qbi (n + 1) (qa3 Tryd.prog (EDParts rk) 40 qk5) (head (EDParts rk) 4) ⟨[(0, .ptr 0 0 0), (1, qI v1), (6, .ptr 70 0 0), (7, .ptr 71 0 0), (8, .ref 72 0 v2 true 1), (9, .ptr 84 0 0)], [(0, ⟨.var [qS v3, qI v4], false⟩), (70, ⟨.var [qI 0, .nils, .nils], false⟩), (71, ⟨.var [qI v5, .nils, .ref 100 0 v6 true 3], false⟩), (72, ⟨.gen 1 v7, false⟩), (84, ⟨.var [qS v8, qI v9], false⟩), (100, ⟨.gen 3 v10, false⟩)]⟩ k = qj0 rk (fun v1 v2 v3 v4 v5 v6 v7 v8 v9 v10 => qbi n (qa3 Tryd.prog (EDParts rk) 40 qk5) (head (EDParts rk) 4) ⟨[(0, .ptr 0 0 0), (1, qI v1), (6, .ptr 70 0 0), (7, .ptr 71 0 0), (8, .ref 72 0 v2 true 1), (9, .ptr 84 0 0)], [(0, ⟨.var [qS v3, qI v4], false⟩), (70, ⟨.var [qI 0, .nils, .nils], false⟩), (71, ⟨.var [qI v5, .nils, .ref 100 0 v6 true 3], false⟩), (72, ⟨.gen 1 v7, false⟩), (84, ⟨.var [qS v8, qI v9], false⟩), (100, ⟨.gen 3 v10, false⟩)]⟩ k) (qjc k) (qjp k) v1 v2 v3 v4 v5 v6 v7 v8 v9 v10 := by kernel_rfl
theorem qpx (rk : Nat) (k : KT) : ∀ (n : Nat), ∀ (v1 : Int) (v2 : Nat) (v3 : LI) (v4 v5 : Int) (v6 : Nat) (v7 : LC) (v8 : LI) (v9 : Int) (v10 : LC), qbi n (qa3 Tryd.prog (EDParts rk) 40 qk5) (head (EDParts rk) 4) ⟨[(0, .ptr 0 0 0), (1, qI v1), (6, .ptr 70 0 0), (7, .ptr 71 0 0), (8, .ref 72 0 v2 true 1), (9, .ptr 84 0 0)], [(0, ⟨.var [qS v3, qI v4], false⟩), (70, ⟨.var [qI 0, .nils, .nils], false⟩), (71, ⟨.var [qI v5, .nils, .ref 100 0 v6 true 3], false⟩), (72, ⟨.gen 1 v7, false⟩), (84, ⟨.var [qS v8, qI v9], false⟩), (100, ⟨.gen 3 v10, false⟩)]⟩ k = qe6 rk (qjc k) (qjp k) n v1 v2 v3 v4 v5 v6 v7 v8 v9 v10
 | 0 => by intros; rfl
 | n + 1 => by
  intros
  rw [lpDParts_4_step]
  have ih := qpx rk k n
  simp only [qe6, ih]
theorem LDParts_4_ok (rk : Nat) : ∀ (σ : St) (k : KT) (r : Out), LDParts_4 rk σ k = some r -> ∃ n, qbi n (qa3 Tryd.prog (EDParts rk) 40 qk5) (head (EDParts rk) 4) σ k = some r := by
 intro σ k r h
 unfold LDParts_4 at h
 split at h
 ·replace h := qaa h
  obtain ⟨hc, h⟩ := h
  simp only [Bool.and_eq_true, qbb, decide_eq_true_eq, Bool.not_eq_true'] at hc
  obtain ⟨⟨⟨⟨⟨⟨⟨⟨⟨⟨⟨⟨⟨⟨⟨⟨⟨⟨⟨⟨⟨⟨⟨⟨⟨⟨⟨⟨⟨⟨⟨⟨rfl, rfl⟩, rfl⟩, rfl⟩, rfl⟩, rfl⟩, rfl⟩, rfl⟩, rfl⟩, rfl⟩, rfl⟩, rfl⟩, rfl⟩, rfl⟩, rfl⟩, rfl⟩, rfl⟩, rfl⟩, rfl⟩, rfl⟩, rfl⟩, rfl⟩, rfl⟩, rfl⟩, rfl⟩, rfl⟩, rfl⟩, rfl⟩, rfl⟩, rfl⟩, rfl⟩, rfl⟩, rfl⟩ := hc
  rw [qae] at h
  exact ⟨FUEL, (qpx rk k FUEL _ _ _ _ _ _ _ _ _ _ ).trans h⟩
 ·cases h
theorem loopsDParts (rk : Nat) : ∀ c, Tryd.f33.body = some c -> qaq Tryd.prog (EDParts rk) 40 c := by
 intro c hc
 cases hc
 exact ⟨trivial, ⟨trivial, ⟨trivial, ⟨trivial, ⟨⟨qal _ (by kernel_rfl), qcc rfl (LDParts_4_ok rk)⟩, qal _ (by kernel_rfl), qag rfl⟩, qag rfl⟩, qag rfl⟩, qag rfl⟩, qag rfl⟩
noncomputable def gDParts (rk : Nat) (tag : Int) (b : LI) (l : LI) (d : Int) : OO :=
 let x1 : Int := IntKind.i64.wrap (d - 1)
 shut (qe6 rk
 (fun y2 y3 y4 =>
 some (.pan (.iface 47 (.agg [.int .i64 y2])) [some ⟨.var [.cl (.sli .u8 y3), .cl (.int .i64 y4)], false⟩]))
 (fun y5 y6 y7 y8 y9 y10 y11 y12 y13 y14 y15 y16 =>
 cond (!decide (y5 = 49)) (
 some (.ret [.cl (.agg [.int .i64 y11, .sli .u8 [], .slg 3 y16])] [some ⟨.var [.cl (.sli .u8 y9), .cl (.int .i64 y10)], false⟩]))
 (
 cond (qf0 y13) (
 let r17 : Bool := qbg y13
 cond (r17) (
 some (.ret [.cl (.agg [.int .i64 y11, .sli .u8 [], .slg 3 y16])] [some ⟨.var [.cl (.sli .u8 y9), .cl (.int .i64 y10)], false⟩]))
 (
 cond (true) (
 some (.pan (.iface 47 (.agg [.int .i64 6])) [some ⟨.var [.cl (.sli .u8 y9), .cl (.int .i64 y10)], false⟩]))
 (
 some (.ret [.cl (.agg [.int .i64 y11, .sli .u8 [], .slg 3 y16])] [some ⟨.var [.cl (.sli .u8 y9), .cl (.int .i64 y10)], false⟩])))) none))
 FUEL) tag 0 l d tag 0 [] b x1 []
theorem gDParts_eq (rk : Nat) (tag : Int) (b : LI) (l : LI) (d : Int) : qco Tryd.prog (EDParts rk) 40 false Tryd.f33 [.ptr 0 0 0, .cl (.int .i64 tag), .cl (.sli .u8 b)] [⟨.var [.cl (.sli .u8 l), .cl (.int .i64 d)], false⟩] = gDParts rk tag b l d := by kernel_rfl

noncomputable def EDParse : Env := {
 orc := fun g => cond (Nat.beq g 22) SDValue (cond (Nat.beq g 23) SDMust (fun _ _ => Tree.fail))
 pre := fun g => cond (Nat.beq g 22) preDValue (cond (Nat.beq g 23) qoj (fun _ _ => true))
 byref := fun g => cond (Nat.beq g 22) ([0]) ([])
 spl := fun g => cond (Nat.beq g 23) (some 0) (none)
 glob := qca
 nt := 23
 rg := false
}
noncomputable def DEDParse : DEnv := {
 rid := 3
 low := [(66, 0), (67, 1)]
 orc := fun g => cond (Nat.beq g 21) DDCatch (fun _ _ _ => none)
 pre := fun g => cond (Nat.beq g 21) preDDCatch (fun _ _ _ => false) }
theorem loopsDParse : ∀ c, Tryd.f9.body = some c -> qaq Tryd.prog (EDParse) 40 c := by
 intro c hc
 cases hc
 exact qal _ (by kernel_rfl)
noncomputable def gDParse (b : LI) : OO :=
 cond (decide ((1048576 : Int) < ((b.length : Nat) : Int))) (
 some (.ret [.cl (.agg [.int .i64 0, .sli .u8 [], .slg 3 []]), .cl (.int .i64 2)] []))
 (
 cond (qac b && qb9 32) (
 cond (!(decide ((qk9 b 32).1 = 0))) (
 let r1 : Int := (qk9 b 32).1
 some (.ret [.cl (.agg [.int .i64 0, .sli .u8 [], .slg 3 []]), .cl (.int .i64 r1)] []))
 (
 let r3 : Int := (qk9 b 32).2.1.1
 let r4 : LI := (qk9 b 32).2.1.2.1
 let r5 : LC := (qk9 b 32).2.1.2.2
 let r6 : LI := (qk9 b 32).2.2
 cond (decide (((r6.length : Nat) : Int) = 0)) (
 some (.ret [.cl (.agg [.int .i64 r3, .sli .u8 r4, .slg 3 r5]), .cl (.int .i64 0)] []))
 (
 cond (true) (
 some (.ret [.cl (.agg [.int .i64 0, .sli .u8 [], .slg 3 []]), .cl (.int .i64 7)] []))
 (
 some (.ret [.cl (.agg [.int .i64 r3, .sli .u8 r4, .slg 3 r5]), .cl (.int .i64 0)] []))))) none)
theorem gDParse_eq (b : LI) : bodyDK Tryd.prog (EDParse) DEDParse 40 false Tryd.f9 [.cl (.sli .u8 b)] [] = gDParse b := by kernel_rfl

noncomputable def ELAwake : Env := {
 orc := fun g => cond (Nat.beq g 9) SDParse (cond (Nat.beq g 15) SR1Same (fun _ _ => Tree.fail))
 pre := fun g => cond (Nat.beq g 9) preDParse (cond (Nat.beq g 15) qqx (fun _ _ => true))
 glob := qca
 nt := 65
}
theorem loopsLAwake : ∀ c, Tryd.f8.body = some c -> qaq Tryd.prog (ELAwake) 40 c := by
 intro c hc
 cases hc
 exact qal _ (by kernel_rfl)
noncomputable def gLAwake  : OO :=
 cond (qac [2, 1, 5]) (
 let r1 : Int := (qar [2, 1, 5]).1.1
 let r2 : LI := (qar [2, 1, 5]).1.2.1
 let r4 : Int := (qar [2, 1, 5]).2
 cond (qac [2, 2, 0, 5]) (
 let r8 : Int := (qar [2, 2, 0, 5]).2
 cond (qac [2, 129, 1, 5]) (
 let r12 : Int := (qar [2, 129, 1, 5]).2
 cond (qac [5, 0, 0]) (
 let r16 : Int := (qar [5, 0, 0]).2
 cond (qac [31, 0]) (
 let r20 : Int := (qar [31, 0]).2
 cond (decide (r4 = 0)) (
 cond (decide (r1 = 2)) (
 cond (qid r2) (
 let r21 : Bool := qb3 r2 [5]
 cond (r21) (
 cond (decide (r8 = 5)) (
 cond (decide (r12 = 1)) (
 cond (decide (r16 = 7)) (
 some (.ret [.cl (.bool (decide (r20 = 4)))] []))
 (
 some (.ret [.cl (.bool false)] [])))
 (
 some (.ret [.cl (.bool false)] [])))
 (
 some (.ret [.cl (.bool false)] [])))
 (
 some (.ret [.cl (.bool false)] []))) none)
 (
 some (.ret [.cl (.bool false)] [])))
 (
 some (.ret [.cl (.bool false)] []))) none) none) none) none) none
theorem gLAwake_eq  : qco Tryd.prog (ELAwake) 40 false Tryd.f8 [] [] = gLAwake  := by kernel_rfl

abbrev zLDeep0 := Int -> Nat -> Int -> Int -> LI -> OO
noncomputable def lpLDeep_4s (again : zLDeep0) (k0 : zLDeep0) (v1 : Int) (v2 : Nat) (v3 v4 : Int) (v5 : LI) : OO :=
 cond (decide (v4 < v3)) (
 let x5 : Int := IntKind.u8.wrap ((v2 : Nat) : Int)
 let l6 : LI := (shut [48, x5]) ++ v5
 cond (decide (((l6.length : Nat) : Int) * 1 <= LIM)) (
 cond (decide (((l6.length : Nat) : Int) <= LIM)) (
 let x7 : Int := IntKind.i64.wrap (v4 + 1)
 again v1 l6.length v3 x7 l6) none) none)
 (
 k0 v1 v2 v3 v4 v5)
noncomputable def qqw (k0 : zLDeep0) : Nat -> Int -> Nat -> Int -> Int -> LI -> OO
 | 0 => fun _ _ _ _ _ => none
 | n + 1 => lpLDeep_4s (qqw k0 n) k0
noncomputable def gLDeep (n : Int) : OO :=
 let x1 : Int := Int.tmod n 60
 let x2 : Int := IntKind.i64.wrap x1
 let x3 : Int := IntKind.i64.wrap ((1 : Int) + x2)
 let x4 : Int := IntKind.i64.wrap (x3 - 1)
 shut (qqw
 (fun y5 y6 y7 y8 y9 =>
 cond (decide ((127 : Int) < ((y6 : Nat) : Int))) (
 let r10 : Bool := true
 some (.ret [.cl (.bool r10)] []))
 (
 cond (qac y9) (
 let r14 : Int := (qar y9).2
 cond (((decide (r14 = 0)) == (decide (y5 <= 32)))) (
 cond (decide (r14 = 0)) (
 let r15 : Bool := true
 some (.ret [.cl (.bool r15)] []))
 (
 cond (decide (r14 = 3)) (
 let r16 : Bool := true
 some (.ret [.cl (.bool r16)] []))
 (
 some (.ret [.cl (.bool false)] []))))
 (
 some (.ret [.cl (.bool false)] []))) none))
 FUEL) x3 2 x4 0 [5, 0]
noncomputable def gDSame (rk : Nat) (ta : Int) (ba : LI) (ka : LC) (tb : Int) (bb : LI) (kb : LC) : OO :=
 cond (decide (ta = tb)) (
 cond (qid ba) (
 let r1 : Bool := qb3 ba bb
 cond (r1) (
 cond (isNsr rk ka && isNs kb) (
 let r2 : Bool := ndsSame ka kb
 some (.ret [.cl (.bool r2)] [])) none)
 (
 some (.ret [.cl (.bool false)] []))) none)
 (
 some (.ret [.cl (.bool false)] []))
abbrev zEqF0 := LC -> LC -> Int -> Int -> OO
abbrev zEqF1 := LC -> Int -> LC -> Int -> Int -> Int -> LC -> Nat -> Int -> LI -> LC -> LC -> Int -> LC -> Nat -> Int -> LI -> LC -> Int -> LI -> LC -> Int -> LI -> LC -> Bool -> Int -> LI -> LC -> Int -> LI -> LC -> OO
noncomputable def lpEqF_4s (rk : Nat) (again : zEqF0) (k0 : zEqF1) (k1 : zEqF0) (v1 v2 : LC) (v3 v4 : Int) : OO :=
 cond (decide (v4 < v3)) (
 cond (decide ((0 : Int) <= v4)) (
 cond (decide (v4 < ((v2.length : Nat) : Int))) (
 Option.bind (v2[(Int.toNat v4)]?) fun (e1 : CV) =>
 let e2 : CV := (cell1 e1).headD .nili
 let e3 : CV := (cell1 e1).tail.headD .nili
 let e4 : CV := (cell1 e1).tail.tail.headD .nili
 cond (okInt .i64 e2 && (okSli .u8 e3 && (okSlg 3 e4 && true))) (
 let i5 : Int := cvInt e2
 let l6 : LI := qee e3
 let l7 : LC := cvSlg e4
 cond (decide ((0 : Int) <= v4)) (
 cond (decide (v4 < ((v1.length : Nat) : Int))) (
 Option.bind (v1[(Int.toNat v4)]?) fun (e8 : CV) =>
 let e9 : CV := (cell1 e8).headD .nili
 let e10 : CV := (cell1 e8).tail.headD .nili
 let e11 : CV := (cell1 e8).tail.tail.headD .nili
 cond (okInt .i64 e9 && (okSli .u8 e10 && (okSlg 3 e11 && true))) (
 let i12 : Int := cvInt e9
 let l13 : LI := qee e10
 let l14 : LC := cvSlg e11
 cond (isNr rk [.int .i64 i5, .sli .u8 l6, .slg 3 l7] && isN [.int .i64 i12, .sli .u8 l13, .slg 3 l14]) (
 let r15 : Bool := qif [.int .i64 i5, .sli .u8 l6, .slg 3 l7] [.int .i64 i12, .sli .u8 l13, .slg 3 l14]
 cond (!r15) (
 k0 v1 v4 v2 v3 v4 v4 v2 (Int.toNat v4) i5 l6 l7 v1 v4 v1 (Int.toNat v4) i12 l13 l14 i5 l6 l7 i12 l13 l14 r15 i5 l6 l7 i12 l13 l14)
 (
 let x16 : Int := IntKind.i64.wrap (v4 + 1)
 again v1 v2 v3 x16)) none) none) none) none) none) none) none)
 (
 k1 v1 v2 v3 v4)
noncomputable def lpEqF_4 (rk : Nat) (k0 : zEqF1) (k1 : zEqF0) : Nat -> LC -> LC -> Int -> Int -> OO
 | 0 => fun _ _ _ _ => none
 | n + 1 => lpEqF_4s rk (lpEqF_4 rk k0 k1 n) k0 k1
noncomputable def gEqF (rk : Nat) (a : LC) (b : LC) : OO :=
 cond (!decide (((a.length : Nat) : Int) = ((b.length : Nat) : Int))) (
 some (.ret [.cl (.bool false)] []))
 (
 shut (lpEqF_4 rk
 (fun y1 y2 y3 y4 y5 y6 y7 y8 y9 y10 y11 y12 y13 y14 y15 y16 y17 y18 y19 y20 y21 y22 y23 y24 y25 y26 y27 y28 y29 y30 y31 =>
 some (.ret [.cl (.bool false)] []))
 (fun y32 y33 y34 y35 =>
 some (.ret [.cl (.bool true)] []))
 FUEL) b a ((a.length : Nat) : Int) 0)
abbrev zRSmall0 := Int -> Int -> Int -> LC -> Int -> Bool -> Int -> Bool -> Int -> LI -> LC -> OO
abbrev zRSmall1 := Int -> Int -> Int -> LC -> Int -> Bool -> Int -> LI -> LC -> OO
noncomputable def qjt (rk : Nat) (again : Int -> Int -> Int -> LI -> LC -> OO) (k0 : zRSmall0) (k1 : zRSmall1) (v1 v2 v3 : Int) (v4 : LI) (v5 : LC) : OO :=
 cond (decide (v2 < ((v5.length : Nat) : Int))) (
 cond (decide ((0 : Int) <= v1)) (
 cond (decide ((0 : Int) <= v2)) (
 cond (decide (v2 < ((v5.length : Nat) : Int))) (
 Option.bind (v5[(Int.toNat v2)]?) fun (e4 : CV) =>
 let e5 : CV := (cell1 e4).headD .nili
 let e6 : CV := (cell1 e4).tail.headD .nili
 let e7 : CV := (cell1 e4).tail.tail.headD .nili
 cond (okInt .i64 e5 && (okSli .u8 e6 && (okSlg 3 e7 && true))) (
 let i8 : Int := cvInt e5
 let l9 : LI := qee e6
 let l10 : LC := cvSlg e7
 cond (isTr rk [.int .i64 i8, .sli .u8 l9, .slg 3 l10] && qmp v1) (
 let r11 : Int := qh9 [.int .i64 i8, .sli .u8 l9, .slg 3 l10] v1
 let x12 : Int := IntKind.i64.wrap (v2 + 1)
 again r11 x12 v3 v4 v5) none) none) none) none)
 (
 k0 v1 v2 v2 v5 ((v5.length : Nat) : Int) (decide (v2 < ((v5.length : Nat) : Int))) v1 (decide ((0 : Int) <= v1)) v3 v4 v5))
 (
 k1 v1 v2 v2 v5 ((v5.length : Nat) : Int) (decide (v2 < ((v5.length : Nat) : Int))) v3 v4 v5)
noncomputable def qev (rk : Nat) (k0 : zRSmall0) (k1 : zRSmall1) : Nat -> Int -> Int -> Int -> LI -> LC -> OO
 | 0 => fun _ _ _ _ _ => none
 | n + 1 => qjt rk (qev rk k0 k1 n) k0 k1
noncomputable def qiz (k : KT) : zRSmall0 := fun y1 y2 y3 y4 y5 y6 y7 y8 y9 y10 y11 => k (.exit 0) ⟨[(1, qI y1), (2, .ptr 66 0 0), (5, qI y2), (13, qI y3), (14, .ptr 66 0 2), (15, qG 3 y4), (16, qI y5), (17, qB y6), (18, qB true), (19, qI y7), (20, qB y8), (21, qB false)], [(66, ⟨.var [qI y9, qS y10, qG 3 y11], false⟩)]⟩
noncomputable def qjg (k : KT) : zRSmall1 := fun y1 y2 y3 y4 y5 y6 y7 y8 y9 => k (.exit 0) ⟨[(1, qI y1), (2, .ptr 66 0 0), (5, qI y2), (13, qI y3), (14, .ptr 66 0 2), (15, qG 3 y4), (16, qI y5), (17, qB y6), (18, qB false), (19, .tup []), (20, .tup []), (21, qB false)], [(66, ⟨.var [qI y7, qS y8, qG 3 y9], false⟩)]⟩
noncomputable def LRSmall_3 (rk : Nat) : St -> (KT) -> OO := fun σ k => match σ with
 | ⟨[(q1, .cl (.int .i64 v1)), (q2, .ptr q3 q4 q5), (q6, .cl (.int .i64 v2))], [(q7, ⟨.var [.cl (.int .i64 v3), .cl (.sli .u8 v4), .cl (.slg q8 v5)], false⟩)]⟩ => cond (Nat.beq q1 1 && Nat.beq q2 2 && Nat.beq q3 66 && Nat.beq q4 0 && Nat.beq q5 0 && Nat.beq q6 5 && Nat.beq q7 66 && Nat.beq q8 3) (shut (qev rk (qiz k) (qjg k) FUEL) v1 v2 v3 v4 v5) none
 | _ => none
noncomputable def ERSmall (rk : Nat) : Env := {
 orc := fun g => cond (Nat.beq g 12) SRSmall (fun _ _ => Tree.fail)
 pre := fun g => cond (Nat.beq g 12) (qfz (rk)) (fun _ _ => true)
 live := fun r => cond (Nat.beq r 3) ([1, 2, 5]) ([])
 glob := qca
 nt := 32
 lp := fun r => cond (Nat.beq r 3) (some (LRSmall_3 rk)) (none)
}
noncomputable def qkw : Code := (Cd.fst (Cd.fst (Cd.snd (Cd.fst (Cd.snd (Cd.snd (Tryd.f12.body.getD .skip)))))))
theorem lpRSmall_3_step (rk : Nat) (k : KT) (n : Nat) (v1 v2 v3 : Int) (v4 : LI) (v5 : LC) : qbi (n + 1) (qa3 Tryd.prog (ERSmall rk) 40 qkw) (head (ERSmall rk) 3) ⟨[(1, qI v1), (2, .ptr 66 0 0), (5, qI v2)], [(66, ⟨.var [qI v3, qS v4, qG 3 v5], false⟩)]⟩ k = qjt rk (fun v1 v2 v3 v4 v5 => qbi n (qa3 Tryd.prog (ERSmall rk) 40 qkw) (head (ERSmall rk) 3) ⟨[(1, qI v1), (2, .ptr 66 0 0), (5, qI v2)], [(66, ⟨.var [qI v3, qS v4, qG 3 v5], false⟩)]⟩ k) (qiz k) (qjg k) v1 v2 v3 v4 v5 := by kernel_rfl
theorem qpo (rk : Nat) (k : KT) : ∀ (n : Nat), ∀ (v1 v2 v3 : Int) (v4 : LI) (v5 : LC), qbi n (qa3 Tryd.prog (ERSmall rk) 40 qkw) (head (ERSmall rk) 3) ⟨[(1, qI v1), (2, .ptr 66 0 0), (5, qI v2)], [(66, ⟨.var [qI v3, qS v4, qG 3 v5], false⟩)]⟩ k = qev rk (qiz k) (qjg k) n v1 v2 v3 v4 v5
 | 0 => by intros; rfl
 | n + 1 => by
  intros
  rw [lpRSmall_3_step]
  have ih := qpo rk k n
  simp only [qev, ih]
theorem LRSmall_3_ok (rk : Nat) : ∀ (σ : St) (k : KT) (r : Out), LRSmall_3 rk σ k = some r -> ∃ n, qbi n (qa3 Tryd.prog (ERSmall rk) 40 qkw) (head (ERSmall rk) 3) σ k = some r := by
 intro σ k r h
 unfold LRSmall_3 at h
 split at h
 ·replace h := qaa h
  obtain ⟨hc, h⟩ := h
  simp only [Bool.and_eq_true, qbb, decide_eq_true_eq, Bool.not_eq_true'] at hc
  obtain ⟨⟨⟨⟨⟨⟨⟨rfl, rfl⟩, rfl⟩, rfl⟩, rfl⟩, rfl⟩, rfl⟩, rfl⟩ := hc
  rw [qae] at h
  exact ⟨FUEL, (qpo rk k FUEL _ _ _ _ _ ).trans h⟩
 ·cases h
theorem loopsRSmall (rk : Nat) : ∀ c, Tryd.f12.body = some c -> qaq Tryd.prog (ERSmall rk) 40 c := by
 intro c hc
 cases hc
 exact ⟨trivial, ⟨trivial, ⟨⟨trivial, ⟨qal _ (by kernel_rfl), qcc rfl (LRSmall_3_ok rk)⟩, qag rfl⟩, ⟨trivial, trivial, qag rfl⟩, qag rfl⟩, qag rfl⟩, qag rfl⟩
noncomputable def gRSmall (rk : Nat) (ta : Int) (ba : LI) (ka : LC) (left : Int) : OO :=
 let x1 : Int := IntKind.i64.wrap (left - 1)
 let x2 : Int := cond (decide ((1048576 : Int) < ((ba.length : Nat) : Int))) 1048576 ((ba.length : Nat) : Int)
 let x3 : Int := IntKind.i64.wrap (x1 - x2)
 shut (qev rk
 (fun y4 y5 y6 y7 y8 y9 y10 y11 y12 y13 y14 =>
 some (.ret [.cl (.int .i64 y4)] []))
 (fun y15 y16 y17 y18 y19 y20 y21 y22 y23 =>
 some (.ret [.cl (.int .i64 y15)] []))
 FUEL) x3 0 ta ba ka
theorem gRSmall_eq (rk : Nat) (ta : Int) (ba : LI) (ka : LC) (left : Int) : qco Tryd.prog (ERSmall rk) 40 false Tryd.f12 [.cl (.agg [.int .i64 ta, .sli .u8 ba, .slg 3 ka]), .cl (.int .i64 left)] [] = gRSmall rk ta ba ka left := by kernel_rfl

abbrev zDSize0 := Int -> Int -> LC -> Int -> Int -> OO
abbrev zDSize1 := Int -> Int -> Int -> LC -> Int -> Int -> LC -> Nat -> Int -> LI -> LC -> Int -> LI -> LC -> Int -> Int -> Int -> Int -> Int -> Int -> Int -> Bool -> Int -> LI -> LC -> OO
abbrev zDSize2 := Int -> Int -> Int -> LC -> Int -> Int -> LC -> Nat -> Int -> LI -> LC -> Int -> LI -> LC -> Int -> Int -> Int -> Int -> Int -> Int -> Int -> Bool -> Int -> Bool -> Int -> LI -> LC -> OO
noncomputable def qmz (rk : Nat) (again : zDSize0) (k0 : zDSize1) (k1 : zDSize2) (k2 : zDSize0) (v1 v2 : Int) (v3 : LC) (v4 v5 : Int) : OO :=
 cond (decide (v5 < v4)) (
 cond (decide ((0 : Int) <= v5)) (
 cond (decide (v5 < ((v3.length : Nat) : Int))) (
 Option.bind (v3[(Int.toNat v5)]?) fun (e3 : CV) =>
 let e4 : CV := (cell1 e3).headD .nili
 let e5 : CV := (cell1 e3).tail.headD .nili
 let e6 : CV := (cell1 e3).tail.tail.headD .nili
 cond (okInt .i64 e4 && (okSli .u8 e5 && (okSlg 3 e6 && true))) (
 let i7 : Int := cvInt e4
 let l8 : LI := qee e5
 let l9 : LC := cvSlg e6
 let x10 : Int := IntKind.i64.wrap (v1 - 1)
 cond (isSr rk [.int .i64 i7, .sli .u8 l8, .slg 3 l9] && qb9 x10) (
 let r11 : Int := ndSize [.int .i64 i7, .sli .u8 l8, .slg 3 l9] x10
 let x12 : Int := IntKind.i64.wrap (v2 + r11)
 cond (decide (r11 < 0)) (
 k0 v1 x12 r11 v3 v4 v5 v3 (Int.toNat v5) i7 l8 l9 i7 l8 l9 v1 x10 r11 v2 r11 x12 r11 (decide (r11 < 0)) i7 l8 l9)
 (
 cond (decide ((1048576 : Int) < x12)) (
 k1 v1 x12 r11 v3 v4 v5 v3 (Int.toNat v5) i7 l8 l9 i7 l8 l9 v1 x10 r11 v2 r11 x12 r11 (decide (r11 < 0)) x12 (decide ((1048576 : Int) < x12)) i7 l8 l9)
 (
 let x13 : Int := IntKind.i64.wrap (v5 + 1)
 again v1 x12 v3 v4 x13))) none) none) none) none)
 (
 k2 v1 v2 v3 v4 v5)
noncomputable def qgq (rk : Nat) (k0 : zDSize1) (k1 : zDSize2) (k2 : zDSize0) : Nat -> Int -> Int -> LC -> Int -> Int -> OO
 | 0 => fun _ _ _ _ _ => none
 | n + 1 => qmz rk (qgq rk k0 k1 k2 n) k0 k1 k2
noncomputable def qlq (k : KT) : zDSize1 := fun y1 y2 y3 y4 y5 y6 y7 y8 y9 y10 y11 y12 y13 y14 y15 y16 y17 y18 y19 y20 y21 y22 y23 y24 y25 => k .ret ⟨[(1, qI y1), (4, .cl (.int .i64 (-1))), (5, qI y2), (7, .ptr 71 0 0), (8, qI y3), (26, qG 3 y4), (27, qI y5), (28, qI y6), (29, qB true), (30, .cl (.vp (.slg 3 y7) y8 0)), (31, .cl (.agg [.int .i64 y9, .sli .u8 y10, .slg 3 y11])), (32, .cl (.agg [.int .i64 y12, .sli .u8 y13, .slg 3 y14])), (33, qI y15), (34, qI y16), (35, qI y17), (36, qI y18), (37, qI y19), (38, qI y20), (39, qI y21), (40, qB y22), (41, qB true), (42, .tup []), (43, .tup []), (44, qB true)], [(71, ⟨.var [qI y23, qS y24, qG 3 y25], false⟩)]⟩
noncomputable def ql2 (k : KT) : zDSize2 := fun y1 y2 y3 y4 y5 y6 y7 y8 y9 y10 y11 y12 y13 y14 y15 y16 y17 y18 y19 y20 y21 y22 y23 y24 y25 y26 y27 => k .ret ⟨[(1, qI y1), (4, .cl (.int .i64 (-1))), (5, qI y2), (7, .ptr 71 0 0), (8, qI y3), (26, qG 3 y4), (27, qI y5), (28, qI y6), (29, qB true), (30, .cl (.vp (.slg 3 y7) y8 0)), (31, .cl (.agg [.int .i64 y9, .sli .u8 y10, .slg 3 y11])), (32, .cl (.agg [.int .i64 y12, .sli .u8 y13, .slg 3 y14])), (33, qI y15), (34, qI y16), (35, qI y17), (36, qI y18), (37, qI y19), (38, qI y20), (39, qI y21), (40, qB y22), (41, qB false), (42, qI y23), (43, qB y24), (44, qB true)], [(71, ⟨.var [qI y25, qS y26, qG 3 y27], false⟩)]⟩
noncomputable def qlr (k : KT) : zDSize0 := fun y1 y2 y3 y4 y5 => k (.exit 0) ⟨[(1, qI y1), (5, qI y2), (26, qG 3 y3), (27, qI y4), (28, qI y5), (29, qB false)], []⟩
noncomputable def LDSize_8 (rk : Nat) : St -> (KT) -> OO := fun σ k => match σ with
 | ⟨[(q1, .cl (.int .i64 v1)), (q2, .cl (.int .i64 v2)), (q3, .cl (.slg q4 v3)), (q5, .cl (.int .i64 v4)), (q6, .cl (.int .i64 v5))], []⟩ => cond (Nat.beq q1 1 && Nat.beq q2 5 && Nat.beq q3 26 && Nat.beq q4 3 && Nat.beq q5 27 && Nat.beq q6 28) (shut (qgq rk (qlq k) (ql2 k) (qlr k) FUEL) v1 v2 v3 v4 v5) none
 | _ => none
noncomputable def EDSize (rk : Nat) : Env := {
 orc := fun g => cond (Nat.beq g 18) SDBoxed (cond (Nat.beq g 25) SDSize (cond (Nat.beq g 31) SDKnown (cond (Nat.beq g 34) SDFits (cond (Nat.beq g 40) qm8 (fun _ _ => Tree.fail)))))
 pre := fun g => cond (Nat.beq g 18) qma (cond (Nat.beq g 25) (qk0 (rk)) (cond (Nat.beq g 31) preDKnown (cond (Nat.beq g 34) preDFits (cond (Nat.beq g 40) qj2 (fun _ _ => true)))))
 live := fun r => cond (Nat.beq r 8) ([1, 5, 26, 27, 28]) ([])
 glob := qca
 nt := 67
 lp := fun r => cond (Nat.beq r 8) (some (LDSize_8 rk)) (none)
}
noncomputable def qmf : Code := (Cd.fst (Cd.fst (Cd.snd (Cd.snd (Cd.fst (Cd.snd (Cd.fst (Cd.snd (Cd.snd (Cd.snd (Tryd.f25.body.getD .skip)))))))))))
theorem lpDSize_8_step (rk : Nat) (k : KT) (n : Nat) (v1 v2 : Int) (v3 : LC) (v4 v5 : Int) : qbi (n + 1) (qa3 Tryd.prog (EDSize rk) 40 qmf) (head (EDSize rk) 8) ⟨[(1, qI v1), (5, qI v2), (26, qG 3 v3), (27, qI v4), (28, qI v5)], []⟩ k = qmz rk (fun v1 v2 v3 v4 v5 => qbi n (qa3 Tryd.prog (EDSize rk) 40 qmf) (head (EDSize rk) 8) ⟨[(1, qI v1), (5, qI v2), (26, qG 3 v3), (27, qI v4), (28, qI v5)], []⟩ k) (qlq k) (ql2 k) (qlr k) v1 v2 v3 v4 v5 := by kernel_rfl
theorem qrj (rk : Nat) (k : KT) : ∀ (n : Nat), ∀ (v1 v2 : Int) (v3 : LC) (v4 v5 : Int), qbi n (qa3 Tryd.prog (EDSize rk) 40 qmf) (head (EDSize rk) 8) ⟨[(1, qI v1), (5, qI v2), (26, qG 3 v3), (27, qI v4), (28, qI v5)], []⟩ k = qgq rk (qlq k) (ql2 k) (qlr k) n v1 v2 v3 v4 v5
 | 0 => by intros; rfl
 | n + 1 => by
  intros
  rw [lpDSize_8_step]
  have ih := qrj rk k n
  simp only [qgq, ih]
theorem LDSize_8_ok (rk : Nat) : ∀ (σ : St) (k : KT) (r : Out), LDSize_8 rk σ k = some r -> ∃ n, qbi n (qa3 Tryd.prog (EDSize rk) 40 qmf) (head (EDSize rk) 8) σ k = some r := by
 intro σ k r h
 unfold LDSize_8 at h
 split at h
 ·replace h := qaa h
  obtain ⟨hc, h⟩ := h
  simp only [Bool.and_eq_true, qbb, decide_eq_true_eq, Bool.not_eq_true'] at hc
  obtain ⟨⟨⟨⟨⟨rfl, rfl⟩, rfl⟩, rfl⟩, rfl⟩, rfl⟩ := hc
  rw [qae] at h
  exact ⟨FUEL, (qrj rk k FUEL _ _ _ _ _ ).trans h⟩
 ·cases h
theorem loopsDSize (rk : Nat) : ∀ c, Tryd.f25.body = some c -> qaq Tryd.prog (EDSize rk) 40 c := by
 intro c hc
 cases hc
 exact ⟨trivial, ⟨qal _ (by kernel_rfl), ⟨trivial, ⟨⟨trivial, ⟨⟨qal _ (by kernel_rfl), ⟨trivial, ⟨qal _ (by kernel_rfl), qcc rfl (LDSize_8_ok rk)⟩, qag rfl⟩, qag rfl⟩, qal _ (by kernel_rfl), qag rfl⟩, qag rfl⟩, ⟨trivial, trivial, qag rfl⟩, qag rfl⟩, qag rfl⟩, qag rfl⟩, qag rfl⟩
noncomputable def gDSize (rk : Nat) (ta : Int) (ba : LI) (ka : LC) (deep : Int) : OO :=
 cond (decide (deep = 0)) (
 some (.ret [.cl (.int .i64 (-1))] []))
 (
 let r1 : Bool := qcv ta
 cond (!r1) (
 some (.ret [.cl (.int .i64 (-1))] []))
 (
 let r2 : Bool := qbe ta
 cond (r2) (
 cond (decide ((0 : Int) < ((ba.length : Nat) : Int))) (
 some (.ret [.cl (.int .i64 (-1))] []))
 (
 shut (qgq rk
 (fun y3 y4 y5 y6 y7 y8 y9 y10 y11 y12 y13 y14 y15 y16 y17 y18 y19 y20 y21 y22 y23 y24 y25 y26 y27 =>
 some (.ret [.cl (.int .i64 (-1))] []))
 (fun y28 y29 y30 y31 y32 y33 y34 y35 y36 y37 y38 y39 y40 y41 y42 y43 y44 y45 y46 y47 y48 y49 y50 y51 y52 y53 y54 =>
 some (.ret [.cl (.int .i64 (-1))] []))
 (fun y55 y56 y57 y58 y59 =>
 let r60 : Int := qbs y56
 let x61 : Int := IntKind.i64.wrap ((1 : Int) + r60)
 let x62 : Int := IntKind.i64.wrap (x61 + y56)
 some (.ret [.cl (.int .i64 x62)] []))
 FUEL) deep ((ba.length : Nat) : Int) ka ((ka.length : Nat) : Int) 0))
 (
 cond (decide ((0 : Int) < ((ka.length : Nat) : Int))) (
 some (.ret [.cl (.int .i64 (-1))] []))
 (
 cond (decide ((1048576 : Int) < ((ba.length : Nat) : Int))) (
 some (.ret [.cl (.int .i64 (-1))] []))
 (
 cond (qac ba) (
 let r63 : Bool := qc4 ta ba
 cond (!r63) (
 some (.ret [.cl (.int .i64 (-1))] []))
 (
 let r64 : Int := qbs ((ba.length : Nat) : Int)
 let x65 : Int := IntKind.i64.wrap ((1 : Int) + r64)
 let x66 : Int := IntKind.i64.wrap (x65 + ((ba.length : Nat) : Int))
 some (.ret [.cl (.int .i64 x66)] []))) none)))))
theorem gDSize_eq (rk : Nat) (ta : Int) (ba : LI) (ka : LC) (deep : Int) : qco Tryd.prog (EDSize rk) 40 false Tryd.f25 [.cl (.agg [.int .i64 ta, .sli .u8 ba, .slg 3 ka]), .cl (.int .i64 deep)] [] = gDSize rk ta ba ka deep := by kernel_rfl

abbrev zDPut0 := Nat -> Int -> Int -> Int -> LI -> OO
noncomputable def qjw (again : Nat -> Int -> Int -> LI -> OO) (k0 : zDPut0) (v1 : Nat) (v2 v3 : Int) (v4 : LI) : OO :=
 cond (decide ((0 : Int) <= v3)) (
 let x8 : Int := IntKind.i64.wrap ((8 : Int) * v3)
 cond (decide (x8 < 0)) none (
 let x9 : Int := Int.fdiv v2 (2 ^ (min x8.toNat 64))
 let x10 : Int := IntKind.u8.wrap x9
 let l11 : LI := v4 ++ [x10]
 cond (decide (((l11.length : Nat) : Int) * 1 <= LIM)) (
 cond (decide (((l11.length : Nat) : Int) <= LIM)) (
 let x12 : Int := IntKind.i64.wrap (v3 - 1)
 again l11.length v2 x12 l11) none) none))
 (
 k0 v1 v2 v3 v3 v4)
noncomputable def qgw (k0 : zDPut0) : Nat -> Nat -> Int -> Int -> LI -> OO
 | 0 => fun _ _ _ _ => none
 | n + 1 => qjw (qgw k0 n) k0
noncomputable def qn7 (k : KT) : zDPut0 := fun y1 y2 y3 y4 y5 => k (.exit 0) ⟨[(0, .ref 93 0 y1 true 1), (2, qI y2), (8, qI y3), (32, qI y4), (33, qB false)], [(93, ⟨.ints .u8 y5, false⟩)]⟩
noncomputable def LDPut_7 : St -> (KT) -> OO := fun σ k => match σ with
 | ⟨[(q1, .ref q2 q3 v1 true q4), (q5, .cl (.int .i64 v2)), (q6, .cl (.int .i64 v3))], [(q7, ⟨.ints .u8 v4, false⟩)]⟩ => cond (Nat.beq q1 0 && Nat.beq q2 93 && Nat.beq q3 0 && Nat.beq q4 1 && Nat.beq q5 2 && Nat.beq q6 8 && Nat.beq q7 93) (shut (qgw (qn7 k) FUEL) v1 v2 v3 v4) none
 | _ => none
noncomputable def EDPut : Env := {
 orc := fun g => cond (Nat.beq g 40) qm8 (fun _ _ => Tree.fail)
 pre := fun g => cond (Nat.beq g 40) qj2 (fun _ _ => true)
 live := fun r => cond (Nat.beq r 7) ([0, 2, 8]) ([])
 ren := fun r => cond (Nat.beq r 7) ([(107, 93)]) ([])
 glob := qca
 nt := 45
 lp := fun r => cond (Nat.beq r 7) (some (LDPut_7)) (none)
}
noncomputable def qqs : Code := (Cd.fst (Cd.fst (Cd.snd (Cd.fst (Cd.snd (Cd.snd (Cd.snd (Cd.snd (Cd.snd (Tryd.f41.body.getD .skip))))))))))
theorem lpDPut_7_step (k : KT) (n : Nat) (v1 : Nat) (v2 v3 : Int) (v4 : LI) : qbi (n + 1) (qa3 Tryd.prog (EDPut) 40 qqs) (head (EDPut) 7) ⟨[(0, .ref 93 0 v1 true 1), (2, qI v2), (8, qI v3)], [(93, ⟨.ints .u8 v4, false⟩)]⟩ k = qjw (fun v1 v2 v3 v4 => qbi n (qa3 Tryd.prog (EDPut) 40 qqs) (head (EDPut) 7) ⟨[(0, .ref 93 0 v1 true 1), (2, qI v2), (8, qI v3)], [(93, ⟨.ints .u8 v4, false⟩)]⟩ k) (qn7 k) v1 v2 v3 v4 := by kernel_rfl
theorem lpDPut_7_eq (k : KT) : ∀ (n : Nat), ∀ (v1 : Nat) (v2 v3 : Int) (v4 : LI), qbi n (qa3 Tryd.prog (EDPut) 40 qqs) (head (EDPut) 7) ⟨[(0, .ref 93 0 v1 true 1), (2, qI v2), (8, qI v3)], [(93, ⟨.ints .u8 v4, false⟩)]⟩ k = qgw (qn7 k) n v1 v2 v3 v4
 | 0 => by intros; rfl
 | n + 1 => by
  intros
  rw [lpDPut_7_step]
  have ih := lpDPut_7_eq k n
  simp only [qgw, ih]
theorem LDPut_7_ok : ∀ (σ : St) (k : KT) (r : Out), LDPut_7 σ k = some r -> ∃ n, qbi n (qa3 Tryd.prog (EDPut) 40 qqs) (head (EDPut) 7) σ k = some r := by
 intro σ k r h
 unfold LDPut_7 at h
 split at h
 ·replace h := qaa h
  obtain ⟨hc, h⟩ := h
  simp only [Bool.and_eq_true, qbb, decide_eq_true_eq, Bool.not_eq_true'] at hc
  obtain ⟨⟨⟨⟨⟨⟨rfl, rfl⟩, rfl⟩, rfl⟩, rfl⟩, rfl⟩, rfl⟩ := hc
  rw [qae] at h
  exact ⟨FUEL, (lpDPut_7_eq k FUEL _ _ _ _ ).trans h⟩
 ·cases h
theorem loopsDPut : ∀ c, Tryd.f41.body = some c -> qaq Tryd.prog (EDPut) 40 c := by
 intro c hc
 cases hc
 exact ⟨trivial, ⟨trivial, ⟨trivial, ⟨qal _ (by kernel_rfl), ⟨trivial, ⟨⟨trivial, ⟨qal _ (by kernel_rfl), qcc rfl (LDPut_7_ok)⟩, qag rfl⟩, ⟨trivial, trivial, qag rfl⟩, qag rfl⟩, qag rfl⟩, qag rfl⟩, qag rfl⟩, qag rfl⟩, qag rfl⟩
noncomputable def gDPut (tag : Int) (n : Int) : OO :=
 let x1 : Int := IntKind.u8.wrap tag
 let r2 : Int := qbs n
 let x3 : Int := IntKind.i64.wrap (r2 - 1)
 cond (decide (x3 = 0)) (
 let x4 : Int := IntKind.u8.wrap n
 some (.ret [.ref 0 0 2 true 1] [some ⟨.ints .u8 [x1, x4], false⟩]))
 (
 let x5 : Int := IntKind.i64.wrap ((128 : Int) + x3)
 let x6 : Int := IntKind.u8.wrap x5
 let x7 : Int := IntKind.i64.wrap (x3 - 1)
 shut (qgw
 (fun y8 y9 y10 y11 y12 =>
 some (.ret [.ref 0 0 y8 true 1] [some ⟨.ints .u8 y12, false⟩]))
 FUEL) 2 n x7 [x1, x6])
theorem gDPut_eq (tag : Int) (n : Int) : qco Tryd.prog (EDPut) 40 true Tryd.f41 [.nils, .cl (.int .i64 tag), .cl (.int .i64 n)] [] = gDPut tag n := by kernel_rfl

noncomputable def ERHead : Env := {
 orc := fun _ => fun _ _ => Tree.fail
 pre := fun _ => fun _ _ => true
 glob := qca
 nt := 50
}
theorem loopsRHead : ∀ c, Tryd.f44.body = some c -> qaq Tryd.prog (ERHead) 40 c := by
 intro c hc
 cases hc
 exact qal _ (by kernel_rfl)
noncomputable def gRHead (tag : Int) (n : Int) : OO :=
 let x1 : Int := IntKind.u8.wrap tag
 cond (decide (n < 128)) (
 let x2 : Int := IntKind.u8.wrap n
 some (.ret [.ref 0 0 2 true 1] [some ⟨.ints .u8 [x1, x2], false⟩]))
 (
 cond (decide (n < 256)) (
 let x3 : Int := IntKind.u8.wrap n
 some (.ret [.ref 0 0 3 true 1] [some ⟨.ints .u8 [x1, 129, x3], false⟩]))
 (
 cond (decide (n < 65536)) (
 let x4 : Int := IntKind.i64.wrap (Int.tdiv n 256)
 let x5 : Int := IntKind.u8.wrap x4
 let x6 : Int := Int.tmod n 256
 let x7 : Int := IntKind.u8.wrap x6
 some (.ret [.ref 0 0 4 true 1] [some ⟨.ints .u8 [x1, 130, x5, x7], false⟩]))
 (
 let x8 : Int := IntKind.i64.wrap (Int.tdiv n 65536)
 let x9 : Int := IntKind.u8.wrap x8
 let x10 : Int := IntKind.i64.wrap (Int.tdiv n 256)
 let x11 : Int := Int.tmod x10 256
 let x12 : Int := IntKind.u8.wrap x11
 let x13 : Int := Int.tmod n 256
 let x14 : Int := IntKind.u8.wrap x13
 some (.ret [.ref 0 0 5 true 1] [some ⟨.ints .u8 [x1, 131, x9, x12, x14], false⟩]))))
theorem gRHead_eq (tag : Int) (n : Int) : qco Tryd.prog (ERHead) 40 true Tryd.f44 [.cl (.int .i64 tag), .cl (.int .i64 n)] [] = gRHead tag n := by kernel_rfl

abbrev zR1Join0 := LC -> Nat -> Int -> Int -> LC -> Int -> LI -> OO
noncomputable def qkx (again : LC -> Nat -> Int -> LI -> OO) (k0 : zR1Join0) (v1 : LC) (v2 : Nat) (v3 : Int) (v4 : LI) : OO :=
 cond (decide (v3 < ((v1.length : Nat) : Int))) (
 cond (decide ((0 : Int) <= v3)) (
 cond (decide (v3 < ((v1.length : Nat) : Int))) (
 Option.bind (v1[(Int.toNat v3)]?) fun (e1 : CV) =>
 let e2 : CV := (cell1 e1).getD 0 .nili
 cond (okSli .u8 e2) (
 let l3 : LI := qee e2
 let l4 : LI := v4 ++ l3
 cond (decide (((l4.length : Nat) : Int) * 1 <= LIM)) (
 cond (decide (((l4.length : Nat) : Int) <= LIM)) (
 let x5 : Int := IntKind.i64.wrap (v3 + 1)
 again v1 l4.length x5 l4) none) none) none) none) none)
 (
 k0 v1 v2 v3 v3 v1 ((v1.length : Nat) : Int) v4)
noncomputable def qe9 (k0 : zR1Join0) : Nat -> LC -> Nat -> Int -> LI -> OO
 | 0 => fun _ _ _ _ => none
 | n + 1 => qkx (qe9 k0 n) k0
noncomputable def qi7 (k : KT) : zR1Join0 := fun y1 y2 y3 y4 y5 y6 y7 => k (.exit 0) ⟨[(0, qG 1 y1), (3, .ref 67 0 y2 true 1), (4, qI y3), (5, qI y4), (6, qG 1 y5), (7, qI y6), (8, qB false)], [(67, ⟨.ints .u8 y7, false⟩)]⟩
noncomputable def LR1Join_3 : St -> (KT) -> OO := fun σ k => match σ with
 | ⟨[(q1, .cl (.slg q2 v1)), (q3, .ref q4 q5 v2 true q6), (q7, .cl (.int .i64 v3))], [(q8, ⟨.ints .u8 v4, false⟩)]⟩ => cond (Nat.beq q1 0 && Nat.beq q2 1 && Nat.beq q3 3 && Nat.beq q4 67 && Nat.beq q5 0 && Nat.beq q6 1 && Nat.beq q7 4 && Nat.beq q8 67) (shut (qe9 (qi7 k) FUEL) v1 v2 v3 v4) none
 | _ => none
noncomputable def ER1Join : Env := {
 orc := fun _ => fun _ _ => Tree.fail
 pre := fun _ => fun _ _ => true
 live := fun r => cond (Nat.beq r 3) ([0, 3, 4]) ([])
 ren := fun r => cond (Nat.beq r 3) ([(80, 67)]) ([])
 glob := qca
 nt := 18
 lp := fun r => cond (Nat.beq r 3) (some (LR1Join_3)) (none)
}
noncomputable def qkm : Code := (Cd.fst (Cd.fst (Cd.snd (Cd.fst (Cd.snd (Cd.snd (Tryd.f45.body.getD .skip)))))))
theorem lpR1Join_3_step (k : KT) (n : Nat) (v1 : LC) (v2 : Nat) (v3 : Int) (v4 : LI) : qbi (n + 1) (qa3 Tryd.prog (ER1Join) 40 qkm) (head (ER1Join) 3) ⟨[(0, qG 1 v1), (3, .ref 67 0 v2 true 1), (4, qI v3)], [(67, ⟨.ints .u8 v4, false⟩)]⟩ k = qkx (fun v1 v2 v3 v4 => qbi n (qa3 Tryd.prog (ER1Join) 40 qkm) (head (ER1Join) 3) ⟨[(0, qG 1 v1), (3, .ref 67 0 v2 true 1), (4, qI v3)], [(67, ⟨.ints .u8 v4, false⟩)]⟩ k) (qi7 k) v1 v2 v3 v4 := by kernel_rfl
theorem qo7 (k : KT) : ∀ (n : Nat), ∀ (v1 : LC) (v2 : Nat) (v3 : Int) (v4 : LI), qbi n (qa3 Tryd.prog (ER1Join) 40 qkm) (head (ER1Join) 3) ⟨[(0, qG 1 v1), (3, .ref 67 0 v2 true 1), (4, qI v3)], [(67, ⟨.ints .u8 v4, false⟩)]⟩ k = qe9 (qi7 k) n v1 v2 v3 v4
 | 0 => by intros; rfl
 | n + 1 => by
  intros
  rw [lpR1Join_3_step]
  have ih := qo7 k n
  simp only [qe9, ih]
theorem LR1Join_3_ok : ∀ (σ : St) (k : KT) (r : Out), LR1Join_3 σ k = some r -> ∃ n, qbi n (qa3 Tryd.prog (ER1Join) 40 qkm) (head (ER1Join) 3) σ k = some r := by
 intro σ k r h
 unfold LR1Join_3 at h
 split at h
 ·replace h := qaa h
  obtain ⟨hc, h⟩ := h
  simp only [Bool.and_eq_true, qbb, decide_eq_true_eq, Bool.not_eq_true'] at hc
  obtain ⟨⟨⟨⟨⟨⟨⟨rfl, rfl⟩, rfl⟩, rfl⟩, rfl⟩, rfl⟩, rfl⟩, rfl⟩ := hc
  rw [qae] at h
  exact ⟨FUEL, (qo7 k FUEL _ _ _ _ ).trans h⟩
 ·cases h
theorem loopsR1Join : ∀ c, Tryd.f45.body = some c -> qaq Tryd.prog (ER1Join) 40 c := by
 intro c hc
 cases hc
 exact ⟨trivial, ⟨trivial, ⟨⟨trivial, ⟨qal _ (by kernel_rfl), qcc rfl (LR1Join_3_ok)⟩, qag rfl⟩, ⟨trivial, trivial, qag rfl⟩, qag rfl⟩, qag rfl⟩, qag rfl⟩
noncomputable def gR1Join (l : LC) : OO :=
 shut (qe9
 (fun y1 y2 y3 y4 y5 y6 y7 =>
 some (.ret [.cl (.sli .u8 y7)] []))
 FUEL) l 0 0 []
theorem gR1Join_eq (l : LC) : qco Tryd.prog (ER1Join) 40 false Tryd.f45 [.cl (.slg 1 l)] [] = gR1Join l := by kernel_rfl

abbrev qqu := LC -> Int -> LC -> Int -> Int -> OO
abbrev zSConcat1 := ByteArray -> LC -> Int -> LI -> LC -> Int -> Int -> LC -> Nat -> LI -> Int -> LI -> Int -> Int -> Int -> ByteArray -> OO
abbrev qqn := Nat -> LC -> Int -> Int -> LI -> OO
noncomputable def qgf (again : qqu) (k0 : zSConcat1) (k1 : qqu) (v1 : LC) (v2 : Int) (v3 : LC) (v4 v5 : Int) : OO :=
 cond (decide (v5 < v4)) (
 cond (decide ((0 : Int) <= v5)) (
 cond (decide (v5 < ((v3.length : Nat) : Int))) (
 Option.bind (v3[(Int.toNat v5)]?) fun (e1 : CV) =>
 let e2 : CV := (cell1 e1).getD 0 .nili
 cond (okSli .u8 e2) (
 let l3 : LI := qee e2
 let x4 : Int := IntKind.i64.wrap (v2 + ((l3.length : Nat) : Int))
 cond (decide (x4 < 0)) (
 k0 (⟨#[108, 101, 110, 32, 111, 117, 116, 32, 111, 102, 32, 114, 97, 110, 103, 101]⟩ : ByteArray) v1 x4 l3 v3 v4 v5 v3 (Int.toNat v5) l3 v2 l3 ((l3.length : Nat) : Int) x4 x4 (⟨#[108, 101, 110, 32, 111, 117, 116, 32, 111, 102, 32, 114, 97, 110, 103, 101]⟩ : ByteArray))
 (
 let x5 : Int := IntKind.i64.wrap (v5 + 1)
 again v1 x4 v3 v4 x5)) none) none) none)
 (
 k1 v1 v2 v3 v4 v5)
noncomputable def qdz (k0 : zSConcat1) (k1 : qqu) : Nat -> LC -> Int -> LC -> Int -> Int -> OO
 | 0 => fun _ _ _ _ _ => none
 | n + 1 => qgf (qdz k0 k1 n) k0 k1
noncomputable def qfm (again : qqn) (k0 : qqn) (v1 : Nat) (v2 : LC) (v3 v4 : Int) (v5 : LI) : OO :=
 cond (decide (v4 < v3)) (
 cond (decide ((0 : Int) <= v4)) (
 cond (decide (v4 < ((v2.length : Nat) : Int))) (
 Option.bind (v2[(Int.toNat v4)]?) fun (e23 : CV) =>
 let e24 : CV := (cell1 e23).getD 0 .nili
 cond (okSli .u8 e24) (
 let l25 : LI := qee e24
 let l26 : LI := v5 ++ l25
 cond (decide (((l26.length : Nat) : Int) * 1 <= LIM)) (
 cond (decide (((l26.length : Nat) : Int) <= LIM)) (
 let x27 : Int := IntKind.i64.wrap (v4 + 1)
 again l26.length v2 v3 x27 l26) none) none) none) none) none)
 (
 k0 v1 v2 v3 v4 v5)
noncomputable def qcw (k0 : qqn) : Nat -> Nat -> LC -> Int -> Int -> LI -> OO
 | 0 => fun _ _ _ _ _ => none
 | n + 1 => qfm (qcw k0 n) k0
noncomputable def qgm (k : KT) : zSConcat1 := fun y1 y2 y3 y4 y5 y6 y7 y8 y9 y10 y11 y12 y13 y14 y15 y16 => k (.pan (.iface 9 (.str y1))) ⟨[(0, qG 1 y2), (3, qI y3), (5, qS y4), (9, qG 1 y5), (10, qI y6), (11, qI y7), (12, qB true), (13, .cl (.vp (.slg 1 y8) y9 0)), (14, qS y10), (15, qI y11), (16, qS y12), (17, qI y13), (18, qI y14), (19, qI y15), (20, qB true), (21, .cl (.iface 9 (.str y16)))], []⟩
noncomputable def qgx (k : KT) : qqu := fun y1 y2 y3 y4 y5 => k (.exit 0) ⟨[(0, qG 1 y1), (3, qI y2), (9, qG 1 y3), (10, qI y4), (11, qI y5), (12, qB false)], []⟩
noncomputable def LSConcat_3 : St -> (KT) -> OO := fun σ k => match σ with
 | ⟨[(q1, .cl (.slg q2 v1)), (q3, .cl (.int .i64 v2)), (q4, .cl (.slg q5 v3)), (q6, .cl (.int .i64 v4)), (q7, .cl (.int .i64 v5))], []⟩ => cond (Nat.beq q1 0 && Nat.beq q2 1 && Nat.beq q3 3 && Nat.beq q4 9 && Nat.beq q5 1 && Nat.beq q6 10 && Nat.beq q7 11) (shut (qdz (qgm k) (qgx k) FUEL) v1 v2 v3 v4 v5) none
 | _ => none
noncomputable def qfu (k : KT) : qqn := fun y1 y2 y3 y4 y5 => k (.exit 2) ⟨[(6, .ref 88 0 y1 true 1), (25, qG 1 y2), (26, qI y3), (27, qI y4), (28, qB false)], [(88, ⟨.ints .u8 y5, false⟩)]⟩
noncomputable def qn5 : St -> (KT) -> OO := fun σ k => match σ with
 | ⟨[(q1, .ref q2 q3 v1 true q4), (q5, .cl (.slg q6 v2)), (q7, .cl (.int .i64 v3)), (q8, .cl (.int .i64 v4))], [(q9, ⟨.ints .u8 v5, false⟩)]⟩ => cond (Nat.beq q1 6 && Nat.beq q2 88 && Nat.beq q3 0 && Nat.beq q4 1 && Nat.beq q5 25 && Nat.beq q6 1 && Nat.beq q7 26 && Nat.beq q8 27 && Nat.beq q9 88) (shut (qcw (qfu k) FUEL) v1 v2 v3 v4 v5) none
 | _ => none
noncomputable def ESConcat : Env := {
 orc := fun g => cond (Nat.beq g 61) SSGrow (fun _ _ => Tree.fail)
 pre := fun g => cond (Nat.beq g 61) preSGrow (fun _ _ => true)
 byref := fun g => cond (Nat.beq g 61) ([0]) ([])
 keep := fun g => cond (Nat.beq g 61) true (false)
 live := fun r => cond (Nat.beq r 3) ([0, 3, 9, 10, 11]) (cond (Nat.beq r 11) ([6, 25, 26, 27]) ([]))
 ren := fun r => cond (Nat.beq r 11) ([(97, 88)]) ([])
 glob := qca
 nt := 36
 lp := fun r => cond (Nat.beq r 3) (some (LSConcat_3)) (cond (Nat.beq r 11) (some (qn5)) (none))
}
noncomputable def qgs : Code := (Cd.fst (Cd.fst (Cd.snd (Cd.fst (Cd.snd (Cd.snd (Tryd.f43.body.getD .skip)))))))
theorem qr8 (k : KT) (n : Nat) (v1 : LC) (v2 : Int) (v3 : LC) (v4 v5 : Int) : qbi (n + 1) (qa3 Tryd.prog (ESConcat) 40 qgs) (head (ESConcat) 3) ⟨[(0, qG 1 v1), (3, qI v2), (9, qG 1 v3), (10, qI v4), (11, qI v5)], []⟩ k = qgf (fun v1 v2 v3 v4 v5 => qbi n (qa3 Tryd.prog (ESConcat) 40 qgs) (head (ESConcat) 3) ⟨[(0, qG 1 v1), (3, qI v2), (9, qG 1 v3), (10, qI v4), (11, qI v5)], []⟩ k) (qgm k) (qgx k) v1 v2 v3 v4 v5 := by kernel_rfl
theorem qnl (k : KT) : ∀ (n : Nat), ∀ (v1 : LC) (v2 : Int) (v3 : LC) (v4 v5 : Int), qbi n (qa3 Tryd.prog (ESConcat) 40 qgs) (head (ESConcat) 3) ⟨[(0, qG 1 v1), (3, qI v2), (9, qG 1 v3), (10, qI v4), (11, qI v5)], []⟩ k = qdz (qgm k) (qgx k) n v1 v2 v3 v4 v5
 | 0 => by intros; rfl
 | n + 1 => by
  intros
  rw [qr8]
  have ih := qnl k n
  simp only [qdz, ih]
noncomputable def qfc : Code := (Cd.fst (Cd.fst (Cd.snd (Cd.fst (Cd.snd (Cd.snd (Cd.snd (Cd.snd (Tryd.f43.body.getD .skip)))))))))
theorem qqe (k : KT) (n : Nat) (v1 : Nat) (v2 : LC) (v3 v4 : Int) (v5 : LI) : qbi (n + 1) (qa3 Tryd.prog (ESConcat) 40 qfc) (head (ESConcat) 11) ⟨[(6, .ref 88 0 v1 true 1), (25, qG 1 v2), (26, qI v3), (27, qI v4)], [(88, ⟨.ints .u8 v5, false⟩)]⟩ k = qfm (fun v1 v2 v3 v4 v5 => qbi n (qa3 Tryd.prog (ESConcat) 40 qfc) (head (ESConcat) 11) ⟨[(6, .ref 88 0 v1 true 1), (25, qG 1 v2), (26, qI v3), (27, qI v4)], [(88, ⟨.ints .u8 v5, false⟩)]⟩ k) (qfu k) v1 v2 v3 v4 v5 := by kernel_rfl
theorem qlb (k : KT) : ∀ (n : Nat), ∀ (v1 : Nat) (v2 : LC) (v3 v4 : Int) (v5 : LI), qbi n (qa3 Tryd.prog (ESConcat) 40 qfc) (head (ESConcat) 11) ⟨[(6, .ref 88 0 v1 true 1), (25, qG 1 v2), (26, qI v3), (27, qI v4)], [(88, ⟨.ints .u8 v5, false⟩)]⟩ k = qcw (qfu k) n v1 v2 v3 v4 v5
 | 0 => by intros; rfl
 | n + 1 => by
  intros
  rw [qqe]
  have ih := qlb k n
  simp only [qcw, ih]
theorem LSConcat_3_ok : ∀ (σ : St) (k : KT) (r : Out), LSConcat_3 σ k = some r -> ∃ n, qbi n (qa3 Tryd.prog (ESConcat) 40 qgs) (head (ESConcat) 3) σ k = some r := by
 intro σ k r h
 unfold LSConcat_3 at h
 split at h
 ·replace h := qaa h
  obtain ⟨hc, h⟩ := h
  simp only [Bool.and_eq_true, qbb, decide_eq_true_eq, Bool.not_eq_true'] at hc
  obtain ⟨⟨⟨⟨⟨⟨rfl, rfl⟩, rfl⟩, rfl⟩, rfl⟩, rfl⟩, rfl⟩ := hc
  rw [qae] at h
  exact ⟨FUEL, (qnl k FUEL _ _ _ _ _ ).trans h⟩
 ·cases h
theorem LSConcat_11_ok : ∀ (σ : St) (k : KT) (r : Out), qn5 σ k = some r -> ∃ n, qbi n (qa3 Tryd.prog (ESConcat) 40 qfc) (head (ESConcat) 11) σ k = some r := by
 intro σ k r h
 unfold qn5 at h
 split at h
 ·replace h := qaa h
  obtain ⟨hc, h⟩ := h
  simp only [Bool.and_eq_true, qbb, decide_eq_true_eq, Bool.not_eq_true'] at hc
  obtain ⟨⟨⟨⟨⟨⟨⟨⟨rfl, rfl⟩, rfl⟩, rfl⟩, rfl⟩, rfl⟩, rfl⟩, rfl⟩, rfl⟩ := hc
  rw [qae] at h
  exact ⟨FUEL, (qlb k FUEL _ _ _ _ _ ).trans h⟩
 ·cases h
theorem loopsSConcat : ∀ c, Tryd.f43.body = some c -> qaq Tryd.prog (ESConcat) 40 c := by
 intro c hc
 cases hc
 exact ⟨trivial, ⟨trivial, ⟨⟨trivial, ⟨qal _ (by kernel_rfl), qcc rfl (LSConcat_3_ok)⟩, qag rfl⟩, ⟨trivial, ⟨⟨trivial, ⟨qal _ (by kernel_rfl), qcc rfl (LSConcat_11_ok)⟩, qag rfl⟩, ⟨trivial, trivial, qag rfl⟩, qag rfl⟩, qag rfl⟩, qag rfl⟩, qag rfl⟩, qag rfl⟩
noncomputable def gSConcat (l : LC) : OO :=
 shut (qdz
 (fun y1 y2 y3 y4 y5 y6 y7 y8 y9 y10 y11 y12 y13 y14 y15 y16 =>
 some (.pan (.iface 9 (.str y1)) []))
 (fun y17 y18 y19 y20 y21 =>
 cond (growOk y18) (
 let r22 : LI := noInts
 shut (qcw
 (fun y23 y24 y25 y26 y27 =>
 some (.ret [.cl (.sli .u8 y27)] []))
 FUEL) 0 y17 ((y17.length : Nat) : Int) 0 r22) none)
 FUEL) l 0 l ((l.length : Nat) : Int) 0
theorem gSConcat_eq (l : LC) : qco Tryd.prog (ESConcat) 40 false Tryd.f43 [.cl (.slg 1 l)] [] = gSConcat l := by kernel_rfl

abbrev zDWrite0 := Nat -> Int -> LC -> Int -> Int -> Int -> LI -> LC -> LC -> OO
abbrev zDWrite1 := Nat -> Int -> Int -> LI -> Bool -> LC -> Int -> Int -> Int -> LC -> Nat -> Int -> LI -> LC -> LI -> Bool -> Int -> LI -> LC -> LI -> Bool -> LI -> Bool -> Bool -> Int -> LI -> LC -> Int -> LI -> LC -> LC -> OO
noncomputable def qkh (rk : Nat) (again : zDWrite0) (k0 : zDWrite1) (k1 : zDWrite0) (v1 : Nat) (v2 : Int) (v3 : LC) (v4 v5 v6 : Int) (v7 : LI) (v8 v9 : LC) : OO :=
 cond (decide (v5 < v4)) (
 cond (decide ((0 : Int) <= v5)) (
 cond (decide (v5 < ((v3.length : Nat) : Int))) (
 Option.bind (v3[(Int.toNat v5)]?) fun (e5 : CV) =>
 let e6 : CV := (cell1 e5).headD .nili
 let e7 : CV := (cell1 e5).tail.headD .nili
 let e8 : CV := (cell1 e5).tail.tail.headD .nili
 cond (okInt .i64 e6 && (okSli .u8 e7 && (okSlg 3 e8 && true))) (
 let i9 : Int := cvInt e6
 let l10 : LI := qee e7
 let l11 : LC := cvSlg e8
 cond (isWr rk [.int .i64 i9, .sli .u8 l10, .slg 3 l11]) (
 let r12 : LI := (qjd [.int .i64 i9, .sli .u8 l10, .slg 3 l11]).1
 let r13 : Bool := (qjd [.int .i64 i9, .sli .u8 l10, .slg 3 l11]).2
 cond (!r13) (
 k0 v1 v2 v5 r12 r13 v3 v4 v5 v5 v3 (Int.toNat v5) i9 l10 l11 r12 r13 i9 l10 l11 r12 r13 r12 r13 r13 v6 v7 v8 i9 l10 l11 v9)
 (
 let x14 : Int := IntKind.i64.wrap (v2 + ((r12.length : Nat) : Int))
 cond (decide ((0 : Int) <= v5)) (
 cond (decide (v5 < ((v1 : Nat) : Int))) (
 let l15 : LC := v9.set (0 + (Int.toNat v5)) (.sli .u8 r12)
 let x16 : Int := IntKind.i64.wrap (v5 + 1)
 again v1 x14 v3 v4 x16 v6 v7 v8 l15) none) none)) none) none) none) none)
 (
 k1 v1 v2 v3 v4 v5 v6 v7 v8 v9)
noncomputable def qez (rk : Nat) (k0 : zDWrite1) (k1 : zDWrite0) : Nat -> Nat -> Int -> LC -> Int -> Int -> Int -> LI -> LC -> LC -> OO
 | 0 => fun _ _ _ _ _ _ _ _ _ => none
 | n + 1 => qkh rk (qez rk k0 k1 n) k0 k1
noncomputable def qik (k : KT) : zDWrite1 := fun y1 y2 y3 y4 y5 y6 y7 y8 y9 y10 y11 y12 y13 y14 y15 y16 y17 y18 y19 y20 y21 y22 y23 y24 y25 y26 y27 y28 y29 y30 y31 => k .ret ⟨[(1, .ptr 65 0 0), (2, .ref 66 0 0 true 1), (3, qB false), (4, .ref 90 0 y1 true 1), (5, qI y2), (6, qI y3), (7, .ptr 71 0 0), (8, qS y4), (9, qB y5), (28, qG 3 y6), (29, qI y7), (30, qI y8), (31, qB true), (32, qI y9), (33, .cl (.vp (.slg 3 y10) y11 0)), (34, .cl (.agg [.int .i64 y12, .sli .u8 y13, .slg 3 y14])), (35, .tup [qS y15, qB y16]), (36, .cl (.agg [.int .i64 y17, .sli .u8 y18, .slg 3 y19])), (37, .tup [qS y20, qB y21]), (38, qS y22), (39, qB y23), (40, qB y24), (41, qB true)], [(65, ⟨.var [qI y25, qS y26, qG 3 y27], false⟩), (66, ⟨.ints .u8 [], false⟩), (71, ⟨.var [qI y28, qS y29, qG 3 y30], false⟩), (90, ⟨.gen 1 y31, false⟩)]⟩
noncomputable def qiy (k : KT) : zDWrite0 := fun y1 y2 y3 y4 y5 y6 y7 y8 y9 => k (.exit 0) ⟨[(1, .ptr 65 0 0), (4, .ref 90 0 y1 true 1), (5, qI y2), (28, qG 3 y3), (29, qI y4), (30, qI y5), (31, qB false)], [(65, ⟨.var [qI y6, qS y7, qG 3 y8], false⟩), (90, ⟨.gen 1 y9, false⟩)]⟩
noncomputable def LDWrite_6 (rk : Nat) : St -> (KT) -> OO := fun σ k => match σ with
 | ⟨[(q1, .ptr q2 q3 q4), (q5, .ref q6 q7 v1 true q8), (q9, .cl (.int .i64 v2)), (q10, .cl (.slg q11 v3)), (q12, .cl (.int .i64 v4)), (q13, .cl (.int .i64 v5))], [(q14, ⟨.var [.cl (.int .i64 v6), .cl (.sli .u8 v7), .cl (.slg q15 v8)], false⟩), (q16, ⟨.gen q17 v9, false⟩)]⟩ => cond (Nat.beq q1 1 && Nat.beq q2 65 && Nat.beq q3 0 && Nat.beq q4 0 && Nat.beq q5 4 && Nat.beq q6 90 && Nat.beq q7 0 && Nat.beq q8 1 && Nat.beq q9 5 && Nat.beq q10 28 && Nat.beq q11 3 && Nat.beq q12 29 && Nat.beq q13 30 && Nat.beq q14 65 && Nat.beq q15 3 && Nat.beq q16 90 && Nat.beq q17 1) (shut (qez rk (qik k) (qiy k) FUEL) v1 v2 v3 v4 v5 v6 v7 v8 v9) none
 | _ => none
noncomputable def EDWrite (rk : Nat) : Env := {
 orc := fun g => cond (Nat.beq g 18) SDBoxed (cond (Nat.beq g 26) SDWrite (cond (Nat.beq g 41) SDPut (cond (Nat.beq g 42) SOSorted (cond (Nat.beq g 43) SSConcat (fun _ _ => Tree.fail)))))
 pre := fun g => cond (Nat.beq g 18) qma (cond (Nat.beq g 26) (qf2 (rk)) (cond (Nat.beq g 41) preDPut (cond (Nat.beq g 42) qse (cond (Nat.beq g 43) preSConcat (fun _ _ => true)))))
 byref := fun g => cond (Nat.beq g 41) ([0]) ([])
 keep := fun g => cond (Nat.beq g 41) true (false)
 live := fun r => cond (Nat.beq r 6) ([1, 4, 5, 28, 29, 30]) ([])
 glob := qca
 nt := 66
 lp := fun r => cond (Nat.beq r 6) (some (LDWrite_6 rk)) (none)
}
noncomputable def qkb : Code := (Cd.fst (Cd.fst (Cd.snd (Cd.fst (Cd.snd (Cd.snd (Cd.snd (Cd.snd (Tryd.f26.body.getD .skip)))))))))
theorem lpDWrite_6_step (rk : Nat) (k : KT) (n : Nat) (v1 : Nat) (v2 : Int) (v3 : LC) (v4 v5 v6 : Int) (v7 : LI) (v8 v9 : LC) : qbi (n + 1) (qa3 Tryd.prog (EDWrite rk) 40 qkb) (head (EDWrite rk) 6) ⟨[(1, .ptr 65 0 0), (4, .ref 90 0 v1 true 1), (5, qI v2), (28, qG 3 v3), (29, qI v4), (30, qI v5)], [(65, ⟨.var [qI v6, qS v7, qG 3 v8], false⟩), (90, ⟨.gen 1 v9, false⟩)]⟩ k = qkh rk (fun v1 v2 v3 v4 v5 v6 v7 v8 v9 => qbi n (qa3 Tryd.prog (EDWrite rk) 40 qkb) (head (EDWrite rk) 6) ⟨[(1, .ptr 65 0 0), (4, .ref 90 0 v1 true 1), (5, qI v2), (28, qG 3 v3), (29, qI v4), (30, qI v5)], [(65, ⟨.var [qI v6, qS v7, qG 3 v8], false⟩), (90, ⟨.gen 1 v9, false⟩)]⟩ k) (qik k) (qiy k) v1 v2 v3 v4 v5 v6 v7 v8 v9 := by kernel_rfl
theorem qpa (rk : Nat) (k : KT) : ∀ (n : Nat), ∀ (v1 : Nat) (v2 : Int) (v3 : LC) (v4 v5 v6 : Int) (v7 : LI) (v8 v9 : LC), qbi n (qa3 Tryd.prog (EDWrite rk) 40 qkb) (head (EDWrite rk) 6) ⟨[(1, .ptr 65 0 0), (4, .ref 90 0 v1 true 1), (5, qI v2), (28, qG 3 v3), (29, qI v4), (30, qI v5)], [(65, ⟨.var [qI v6, qS v7, qG 3 v8], false⟩), (90, ⟨.gen 1 v9, false⟩)]⟩ k = qez rk (qik k) (qiy k) n v1 v2 v3 v4 v5 v6 v7 v8 v9
 | 0 => by intros; rfl
 | n + 1 => by
  intros
  rw [lpDWrite_6_step]
  have ih := qpa rk k n
  simp only [qez, ih]
theorem LDWrite_6_ok (rk : Nat) : ∀ (σ : St) (k : KT) (r : Out), LDWrite_6 rk σ k = some r -> ∃ n, qbi n (qa3 Tryd.prog (EDWrite rk) 40 qkb) (head (EDWrite rk) 6) σ k = some r := by
 intro σ k r h
 unfold LDWrite_6 at h
 split at h
 ·replace h := qaa h
  obtain ⟨hc, h⟩ := h
  simp only [Bool.and_eq_true, qbb, decide_eq_true_eq, Bool.not_eq_true'] at hc
  obtain ⟨⟨⟨⟨⟨⟨⟨⟨⟨⟨⟨⟨⟨⟨⟨⟨rfl, rfl⟩, rfl⟩, rfl⟩, rfl⟩, rfl⟩, rfl⟩, rfl⟩, rfl⟩, rfl⟩, rfl⟩, rfl⟩, rfl⟩, rfl⟩, rfl⟩, rfl⟩, rfl⟩ := hc
  rw [qae] at h
  exact ⟨FUEL, (qpa rk k FUEL _ _ _ _ _ _ _ _ _ ).trans h⟩
 ·cases h
theorem loopsDWrite (rk : Nat) : ∀ c, Tryd.f26.body = some c -> qaq Tryd.prog (EDWrite rk) 40 c := by
 intro c hc
 cases hc
 exact ⟨trivial, ⟨qal _ (by kernel_rfl), ⟨trivial, ⟨trivial, ⟨⟨trivial, ⟨qal _ (by kernel_rfl), qcc rfl (LDWrite_6_ok rk)⟩, qag rfl⟩, qal _ (by kernel_rfl), qag rfl⟩, qag rfl⟩, qag rfl⟩, qag rfl⟩, qag rfl⟩
noncomputable def gDWrite (rk : Nat) (ta : Int) (ba : LI) (ka : LC) : OO :=
 let r1 : Bool := qbe ta
 cond (!r1) (
 cond (qk6 ta ((ba.length : Nat) : Int)) (
 let r3 : LI := qcn ta ((ba.length : Nat) : Int)
 let l4 : LI := r3 ++ ba
 cond (decide (((l4.length : Nat) : Int) * 1 <= LIM)) (
 cond (decide (((l4.length : Nat) : Int) <= LIM)) (
 some (.ret [.cl (.sli .u8 l4), .cl (.bool true)] [])) none) none) none)
 (
 cond (decide ((0 : Int) <= ((ka.length : Nat) : Int))) (
 cond (decide (((ka.length : Nat) : Int) <= ((ka.length : Nat) : Int))) (
 cond (decide (((ka.length : Nat) : Int) * 24 <= LIM)) (
 cond (decide (((ka.length : Nat) : Int) <= LIM)) (
 shut (qez rk
 (fun y5 y6 y7 y8 y9 y10 y11 y12 y13 y14 y15 y16 y17 y18 y19 y20 y21 y22 y23 y24 y25 y26 y27 y28 y29 y30 y31 y32 y33 y34 y35 =>
 some (.ret [.cl (.sli .u8 []), .cl (.bool false)] []))
 (fun y36 y37 y38 y39 y40 y41 y42 y43 y44 =>
 cond (decide (y41 = 49)) (
 cond (qf0 y44) (
 let r45 : Bool := qbg y44
 cond (!r45) (
 some (.ret [.cl (.sli .u8 []), .cl (.bool false)] []))
 (
 cond (qk6 y41 y37) (
 let r47 : LI := qcn y41 y37
 cond (qn3 y44) (
 let r48 : LI := qcs y44
 let l49 : LI := r47 ++ r48
 cond (decide (((l49.length : Nat) : Int) * 1 <= LIM)) (
 cond (decide (((l49.length : Nat) : Int) <= LIM)) (
 some (.ret [.cl (.sli .u8 l49), .cl (.bool true)] [])) none) none) none) none)) none)
 (
 cond (qk6 y41 y37) (
 let r51 : LI := qcn y41 y37
 cond (qn3 y44) (
 let r52 : LI := qcs y44
 let l53 : LI := r51 ++ r52
 cond (decide (((l53.length : Nat) : Int) * 1 <= LIM)) (
 cond (decide (((l53.length : Nat) : Int) <= LIM)) (
 some (.ret [.cl (.sli .u8 l53), .cl (.bool true)] [])) none) none) none) none))
 FUEL) (Int.toNat ((ka.length : Nat) : Int)) 0 ka ((ka.length : Nat) : Int) 0 ta ba ka (List.replicate (Int.toNat ((ka.length : Nat) : Int)) (.sli .u8 []))) none) none) none) none)
theorem gDWrite_eq (rk : Nat) (ta : Int) (ba : LI) (ka : LC) : qco Tryd.prog (EDWrite rk) 40 false Tryd.f26 [.cl (.agg [.int .i64 ta, .sli .u8 ba, .slg 3 ka])] [] = gDWrite rk ta ba ka := by kernel_rfl
end Go.Proofs.YtbgkadaidhgggaaDoorA
