/-
 What the reading of apostille/apostilleref05.read comes to, printed by a program. Conditions: none.
-/
import Derived.Test.YtbgkadaidhgggaaDoorT1
set_option linter.unusedVariables false
set_option linter.unusedSimpArgs false
set_option maxRecDepth 100000
namespace Go.Proofs.YtbgkadaidhgggaaDoorA
abbrev q97 := Int -> Int -> Int -> Int -> Int -> LI -> Nat -> Int -> Int -> LI -> Int -> Int -> LI -> LC -> Int -> Int -> LI -> Int -> Int -> Int -> LI -> LC -> Int -> Int -> Int -> LI -> LC -> Int -> Int -> Int -> Int -> Int -> Nat -> LC -> Int -> LI -> LC -> LC -> OO
abbrev zRReadN1 := Int -> Int -> Int -> Int -> LI -> Nat -> LI -> Int -> Int -> Nat -> LC -> LC -> OO
noncomputable def qma (rk : Nat) (again : Int -> Int -> Int -> Int -> LI -> Nat -> Int -> Nat -> LC -> LC -> OO) (k0 : q97) (k1 : zRReadN1) (v1 v2 v3 v4 : Int) (v5 : LI) (v6 : Nat) (v7 : Int) (v8 : Nat) (v9 v10 : LC) : OO :=
 cond (decide ((0 : Int) < ((v5.length : Nat) : Int))) (
 let x15 : Int := IntKind.i64.wrap (v1 - 1)
 cond (qad v5 && (qcb x15 && decide (x15.toNat < rk))) (
 let r16 : Int := (qeo v5 x15).1.1
 let r17 : LI := (qeo v5 x15).1.2.1
 let r18 : LC := (qeo v5 x15).1.2.2
 let r19 : Int := (qeo v5 x15).2.1
 let r20 : Int := (qeo v5 x15).2.2
 cond (!decide (r20 = 0)) (
 k0 v1 r20 v2 v3 v4 v5 v6 r19 r20 v5 ((v5.length : Nat) : Int) r16 r17 r18 r19 r20 v5 v1 x15 r16 r17 r18 r19 r20 r16 r17 r18 r19 r20 r20 r20 v7 v8 v9 r16 r17 r18 v10)
 (
 let l21 : LC := v10 ++ ([.agg [.int .i64 r16, .sli .u8 r17, .slg 3 r18]])
 cond (decide (((l21.length : Nat) : Int) * 56 <= LIM)) (
 cond (decide (((l21.length : Nat) : Int) <= LIM)) (
 cond (decide ((0 : Int) <= r19)) (
 cond (decide (r19 <= ((v5.length : Nat) : Int))) (
 let l22 : LI := List.take (Int.toNat r19) v5
 let l23 : LC := v9 ++ [.sli .u8 l22]
 cond (decide (((l23.length : Nat) : Int) * 24 <= LIM)) (
 cond (decide (((l23.length : Nat) : Int) <= LIM)) (
 cond (decide ((0 : Int) <= r19)) (
 cond (decide (r19 <= ((v5.length : Nat) : Int))) (
 let l24 : LI := List.drop (Int.toNat r19) v5
 again v1 v2 v3 v4 l24 l23.length v7 l21.length l23 l21) none) none) none) none) none) none) none) none)) none)
 (
 k1 v1 v2 v3 v4 v5 v6 v5 ((v5.length : Nat) : Int) v7 v8 v9 v10)
noncomputable def qkm (rk : Nat) (k0 : q97) (k1 : zRReadN1) : Nat -> Int -> Int -> Int -> Int -> LI -> Nat -> Int -> Nat -> LC -> LC -> OO
 | 0 => fun _ _ _ _ _ _ _ _ _ _ => none
 | n + 1 => qma rk (qkm rk k0 k1 n) k0 k1
noncomputable def xbat (rk : Nat) (b : LI) (deep : Int) : OO :=
 cond (decide (deep = 0)) (
 some (.ret [.cl (.agg [.int .i64 0, .sli .u8 [], .slg 3 []]), .cl (.int .i64 0), .cl (.int .i64 3)] []))
 (
 cond (decide (((b.length : Nat) : Int) = 0)) (
 some (.ret [.cl (.agg [.int .i64 0, .sli .u8 [], .slg 3 []]), .cl (.int .i64 0), .cl (.int .i64 1)] []))
 (
 cond (decide ((0 : Int) < ((b.length : Nat) : Int))) (
 Option.bind (b[0]?) fun (e1 : Int) =>
 let x2 : Int := IntKind.i64.wrap e1
 let r3 : Bool := qcv x2
 cond (!r3) (
 some (.ret [.cl (.agg [.int .i64 0, .sli .u8 [], .slg 3 []]), .cl (.int .i64 0), .cl (.int .i64 4)] []))
 (
 cond (decide ((1 : Int) <= ((b.length : Nat) : Int))) (
 let l4 : LI := List.drop 1 b
 cond (qad l4) (
 let r5 : Int := (qny l4).1
 let r6 : Int := (qny l4).2
 cond (decide (r6 = 0)) (
 some (.ret [.cl (.agg [.int .i64 0, .sli .u8 [], .slg 3 []]), .cl (.int .i64 0), .cl (.int .i64 1)] []))
 (
 let x7 : Int := IntKind.i64.wrap (((b.length : Nat) : Int) - 1)
 let x8 : Int := IntKind.i64.wrap (x7 - r6)
 cond (decide (x8 < r5)) (
 some (.ret [.cl (.agg [.int .i64 0, .sli .u8 [], .slg 3 []]), .cl (.int .i64 0), .cl (.int .i64 1)] []))
 (
 let x9 : Int := IntKind.i64.wrap ((1 : Int) + r6)
 let x10 : Int := IntKind.i64.wrap (x9 + r5)
 cond (decide ((0 : Int) <= x9)) (
 cond (decide (x9 <= x10)) (
 cond (decide (x10 <= ((b.length : Nat) : Int))) (
 let l11 : LI := List.drop (Int.toNat x9) (List.take (Int.toNat x10) b)
 let r12 : Bool := qbe x2
 cond (!r12) (
 cond (qad l11) (
 let r13 : Bool := qc3 x2 l11
 cond (!r13) (
 some (.ret [.cl (.agg [.int .i64 0, .sli .u8 [], .slg 3 []]), .cl (.int .i64 0), .cl (.int .i64 5)] []))
 (
 let x14 : Int := IntKind.i64.wrap (x9 + r5)
 some (.ret [.cl (.agg [.int .i64 x2, .sli .u8 l11, .slg 3 []]), .cl (.int .i64 x14), .cl (.int .i64 0)] []))) none)
 (
 shut (qkm rk
 (fun y15 y16 y17 y18 y19 y20 y21 y22 y23 y24 y25 y26 y27 y28 y29 y30 y31 y32 y33 y34 y35 y36 y37 y38 y39 y40 y41 y42 y43 y44 y45 y46 y47 y48 y49 y50 y51 y52 =>
 some (.ret [.cl (.agg [.int .i64 0, .sli .u8 [], .slg 3 []]), .cl (.int .i64 0), .cl (.int .i64 y16)] []))
 (fun y53 y54 y55 y56 y57 y58 y59 y60 y61 y62 y63 y64 =>
 cond (decide (y54 = 49)) (
 cond (qga y63) (
 let r65 : Bool := qbi y63
 cond (!r65) (
 some (.ret [.cl (.agg [.int .i64 0, .sli .u8 [], .slg 3 []]), .cl (.int .i64 0), .cl (.int .i64 6)] []))
 (
 let x66 : Int := IntKind.i64.wrap (y56 + y55)
 some (.ret [.cl (.agg [.int .i64 y61, .sli .u8 [], .slg 3 y64]), .cl (.int .i64 x66), .cl (.int .i64 0)] []))) none)
 (
 let x67 : Int := IntKind.i64.wrap (y56 + y55)
 some (.ret [.cl (.agg [.int .i64 y61, .sli .u8 [], .slg 3 y64]), .cl (.int .i64 x67), .cl (.int .i64 0)] [])))
 FUEL) deep x2 r5 x9 l11 0 x2 0 [] [])) none) none) none))) none) none)) none))
noncomputable def EDMust : Env := {
 orc := fun _ => fun _ _ => Tree.fail
 pre := fun _ => fun _ _ => true
 glob := qb9
 nt := 9
}
theorem loopsDMust : ∀ c, Tryd.f23.body = some c -> qaq Tryd.prog (EDMust) 40 c := by
 intro c hc
 cases hc
 exact qaj _ (by kernel_rfl)
noncomputable def xba8 (e : Int) : OO :=
 some (.ret [] [])
theorem q77 (e : Int) : qcc Tryd.prog (EDMust) 40 false Tryd.f23 [.cl (.bool true), .cl (.int .i64 e)] [] = xba8 e := by kernel_rfl
noncomputable def xbah (e : Int) : OO :=
 some (.pan (.iface 47 (.agg [.int .i64 e])) [])
theorem q7e (e : Int) : qcc Tryd.prog (EDMust) 40 false Tryd.f23 [.cl (.bool false), .cl (.int .i64 e)] [] = xbah e := by kernel_rfl

noncomputable def EDNext : Env := {
 orc := fun g => cond (Nat.beq g 23) SDMust (fun _ _ => Tree.fail)
 pre := fun g => cond (Nat.beq g 23) qow (fun _ _ => true)
 spl := fun g => cond (Nat.beq g 23) (some 0) (none)
 glob := qb9
 nt := 27
}
theorem loopsDNext : ∀ c, Tryd.f30.body = some c -> qaq Tryd.prog (EDNext) 40 c := by
 intro c hc
 cases hc
 exact qaj _ (by kernel_rfl)
noncomputable def gDNext (l : LI) (d : Int) : OO :=
 cond (decide ((0 : Int) < ((l.length : Nat) : Int))) (
 cond (decide ((0 : Int) < ((l.length : Nat) : Int))) (
 Option.bind (l[0]?) fun (e1 : Int) =>
 let x2 : Int := IntKind.i64.wrap e1
 cond (decide ((1 : Int) <= ((l.length : Nat) : Int))) (
 let l3 : LI := List.drop 1 l
 some (.ret [.cl (.int .i64 x2)] [some ⟨.var [.cl (.sli .u8 l3), .cl (.int .i64 d)], false⟩])) none) none)
 (
 cond (true) (
 some (.pan (.iface 47 (.agg [.int .i64 1])) [some ⟨.var [.cl (.sli .u8 l), .cl (.int .i64 d)], false⟩]))
 (
 cond (decide ((0 : Int) < ((l.length : Nat) : Int))) (
 Option.bind (l[0]?) fun (e4 : Int) =>
 let x5 : Int := IntKind.i64.wrap e4
 cond (decide ((1 : Int) <= ((l.length : Nat) : Int))) (
 let l6 : LI := List.drop 1 l
 some (.ret [.cl (.int .i64 x5)] [some ⟨.var [.cl (.sli .u8 l6), .cl (.int .i64 d)], false⟩])) none) none))
theorem gDNext_eq (l : LI) (d : Int) : qcc Tryd.prog (EDNext) 40 false Tryd.f30 [.ptr 0 0 0] [⟨.var [.cl (.sli .u8 l), .cl (.int .i64 d)], false⟩] = gDNext l d := by kernel_rfl

abbrev qqz := Int -> Int -> Int -> Int -> LI -> Int -> OO
abbrev qv7 := Int -> Int -> Int -> Int -> Int -> Int -> LI -> Int -> OO
noncomputable def qhz (again : qqz) (k0 : qv7) (k1 : qqz) (v1 v2 v3 v4 : Int) (v5 : LI) (v6 : Int) : OO :=
 cond (decide (v4 < v3)) (
 let x4 : Int := IntKind.i64.wrap (v2 * 2 ^ 8)
 cond (qad v5) (
 cond (v5.isEmpty) (
 k0 v1 v2 v3 v4 v2 x4 v5 v6)
 (
 let r5 : Int := v5.headD 0
 let r6 : LI := v5.tail
 let x7 : Int := IntKind.i64.wrap ((BitVec.ofInt 64 x4 ||| BitVec.ofInt 64 r5).toNat)
 let x8 : Int := IntKind.i64.wrap (v4 + 1)
 again v1 x7 v3 x8 r6 v6)) none)
 (
 k1 v1 v2 v3 v4 v5 v6)
noncomputable def qcn (k0 : qv7) (k1 : qqz) : Nat -> Int -> Int -> Int -> Int -> LI -> Int -> OO
 | 0 => fun _ _ _ _ _ _ => none
 | n + 1 => qhz (qcn k0 k1 n) k0 k1
noncomputable def qho (k : KT) : qv7 := fun y1 y2 y3 y4 y5 y6 y7 y8 => k (.pan (.iface 47 (.agg [.int .i64 1]))) ⟨[(0, .ptr 0 0 0), (3, qI y1), (4, qI y2), (18, qI y3), (19, qI y4), (20, qB true), (21, qI y5), (22, qI y6), (23, .ptr 0 0 0)], [(0, ⟨.var [qS y7, qI y8], false⟩)]⟩
noncomputable def qh6 (k : KT) : qqz := fun y1 y2 y3 y4 y5 y6 => k (.exit 0) ⟨[(0, .ptr 0 0 0), (3, qI y1), (4, qI y2), (18, qI y3), (19, qI y4), (20, qB false)], [(0, ⟨.var [qS y5, qI y6], false⟩)]⟩
noncomputable def qt0 : St -> (KT) -> OO := fun σ k => match σ with
 | ⟨[(q1, .ptr q2 q3 q4), (q5, .cl (.int .i64 v1)), (q6, .cl (.int .i64 v2)), (q7, .cl (.int .i64 v3)), (q8, .cl (.int .i64 v4))], [(q9, ⟨.var [.cl (.sli .u8 v5), .cl (.int .i64 v6)], false⟩)]⟩ => cond (Nat.beq q1 0 && Nat.beq q2 0 && Nat.beq q3 0 && Nat.beq q4 0 && Nat.beq q5 3 && Nat.beq q6 4 && Nat.beq q7 18 && Nat.beq q8 19 && Nat.beq q9 0) (shut (qcn (qho k) (qh6 k) FUEL) v1 v2 v3 v4 v5 v6) none
 | _ => none
noncomputable def EDLength : Env := {
 orc := fun g => cond (Nat.beq g 23) SDMust (cond (Nat.beq g 30) SDNext (cond (Nat.beq g 40) qng (fun _ _ => Tree.fail)))
 pre := fun g => cond (Nat.beq g 23) qow (cond (Nat.beq g 30) q01 (cond (Nat.beq g 40) qla (fun _ _ => true)))
 byref := fun g => cond (Nat.beq g 30) ([0]) ([])
 spl := fun g => cond (Nat.beq g 23) (some 0) (none)
 live := fun r => cond (Nat.beq r 7) ([0, 3, 4, 18, 19]) ([])
 glob := qb9
 nt := 35
 lp := fun r => cond (Nat.beq r 7) (some (qt0)) (none)
}
noncomputable def qhu : Code := (Cd.fst (Cd.fst (Cd.snd (Cd.fst (Cd.snd (Cd.snd (Cd.snd (Cd.snd (Cd.snd (Tryd.f32.body.getD .skip))))))))))
theorem qtn (k : KT) (n : Nat) (v1 v2 v3 v4 : Int) (v5 : LI) (v6 : Int) : qbg (n + 1) (qa1 Tryd.prog (EDLength) 40 qhu) (head (EDLength) 7) ⟨[(0, .ptr 0 0 0), (3, qI v1), (4, qI v2), (18, qI v3), (19, qI v4)], [(0, ⟨.var [qS v5, qI v6], false⟩)]⟩ k = qhz (fun v1 v2 v3 v4 v5 v6 => qbg n (qa1 Tryd.prog (EDLength) 40 qhu) (head (EDLength) 7) ⟨[(0, .ptr 0 0 0), (3, qI v1), (4, qI v2), (18, qI v3), (19, qI v4)], [(0, ⟨.var [qS v5, qI v6], false⟩)]⟩ k) (qho k) (qh6 k) v1 v2 v3 v4 v5 v6 := by kernel_rfl
theorem qmv (k : KT) : ∀ (n : Nat), ∀ (v1 v2 v3 v4 : Int) (v5 : LI) (v6 : Int), qbg n (qa1 Tryd.prog (EDLength) 40 qhu) (head (EDLength) 7) ⟨[(0, .ptr 0 0 0), (3, qI v1), (4, qI v2), (18, qI v3), (19, qI v4)], [(0, ⟨.var [qS v5, qI v6], false⟩)]⟩ k = qcn (qho k) (qh6 k) n v1 v2 v3 v4 v5 v6
 | 0 => by intros; rfl
 | n + 1 => by
  intros
  rw [qtn]
  have ih := qmv k n
  simp only [qcn, ih]
theorem qy6 : ∀ (σ : St) (k : KT) (r : Out), qt0 σ k = some r -> ∃ n, qbg n (qa1 Tryd.prog (EDLength) 40 qhu) (head (EDLength) 7) σ k = some r := by
 intro σ k r h
 unfold qt0 at h
 split at h
 ·replace h := qaa h
  obtain ⟨hc, h⟩ := h
  simp only [Bool.and_eq_true, qa7, decide_eq_true_eq, Bool.not_eq_true'] at hc
  obtain ⟨⟨⟨⟨⟨⟨⟨⟨rfl, rfl⟩, rfl⟩, rfl⟩, rfl⟩, rfl⟩, rfl⟩, rfl⟩, rfl⟩ := hc
  rw [qae] at h
  exact ⟨FUEL, (qmv k FUEL _ _ _ _ _ _ ).trans h⟩
 ·cases h
theorem q1p : ∀ c, Tryd.f32.body = some c -> qaq Tryd.prog (EDLength) 40 c := by
 intro c hc
 cases hc
 exact ⟨trivial, ⟨trivial, ⟨qaj _ (by kernel_rfl), ⟨trivial, ⟨trivial, ⟨⟨trivial, ⟨qaj _ (by kernel_rfl), qb5 rfl (qy6)⟩, qaf rfl⟩, qaj _ (by kernel_rfl), qaf rfl⟩, qaf rfl⟩, qaf rfl⟩, qaf rfl⟩, qaf rfl⟩, qaf rfl⟩
noncomputable def q3y (l : LI) (d : Int) : OO :=
 cond (qad l) (
 cond (l.isEmpty) (
 some (.pan (.iface 47 (.agg [.int .i64 1])) [some ⟨.var [.cl (.sli .u8 l), .cl (.int .i64 d)], false⟩]))
 (
 let r1 : Int := l.headD 0
 let r2 : LI := l.tail
 cond (decide (r1 < 128)) (
 some (.ret [.cl (.int .i64 r1)] [some ⟨.var [.cl (.sli .u8 r2), .cl (.int .i64 d)], false⟩]))
 (
 cond (decide ((128 : Int) < r1)) (
 cond (decide (r1 <= 131)) (
 let x3 : Int := IntKind.i64.wrap (r1 - 128)
 shut (qcn
 (fun y4 y5 y6 y7 y8 y9 y10 y11 =>
 some (.pan (.iface 47 (.agg [.int .i64 1])) [some ⟨.var [.cl (.sli .u8 y10), .cl (.int .i64 y11)], false⟩]))
 (fun y12 y13 y14 y15 y16 y17 =>
 let r18 : Int := qbr y13
 let x19 : Int := IntKind.i64.wrap ((1 : Int) + y12)
 let x20 : Int := IntKind.i64.wrap (x19 - 128)
 cond (decide (r18 = x20)) (
 some (.ret [.cl (.int .i64 y13)] [some ⟨.var [.cl (.sli .u8 y16), .cl (.int .i64 y17)], false⟩]))
 (
 cond (true) (
 some (.pan (.iface 47 (.agg [.int .i64 1])) [some ⟨.var [.cl (.sli .u8 y16), .cl (.int .i64 y17)], false⟩]))
 (
 some (.ret [.cl (.int .i64 y13)] [some ⟨.var [.cl (.sli .u8 y16), .cl (.int .i64 y17)], false⟩]))))
 FUEL) r1 0 x3 0 r2 d)
 (
 cond (true) (
 some (.pan (.iface 47 (.agg [.int .i64 1])) [some ⟨.var [.cl (.sli .u8 r2), .cl (.int .i64 d)], false⟩]))
 (
 let x21 : Int := IntKind.i64.wrap (r1 - 128)
 shut (qcn
 (fun y22 y23 y24 y25 y26 y27 y28 y29 =>
 some (.pan (.iface 47 (.agg [.int .i64 1])) [some ⟨.var [.cl (.sli .u8 y28), .cl (.int .i64 y29)], false⟩]))
 (fun y30 y31 y32 y33 y34 y35 =>
 let r36 : Int := qbr y31
 let x37 : Int := IntKind.i64.wrap ((1 : Int) + y30)
 let x38 : Int := IntKind.i64.wrap (x37 - 128)
 cond (decide (r36 = x38)) (
 some (.ret [.cl (.int .i64 y31)] [some ⟨.var [.cl (.sli .u8 y34), .cl (.int .i64 y35)], false⟩]))
 (
 cond (true) (
 some (.pan (.iface 47 (.agg [.int .i64 1])) [some ⟨.var [.cl (.sli .u8 y34), .cl (.int .i64 y35)], false⟩]))
 (
 some (.ret [.cl (.int .i64 y31)] [some ⟨.var [.cl (.sli .u8 y34), .cl (.int .i64 y35)], false⟩]))))
 FUEL) r1 0 x21 0 r2 d)))
 (
 cond (true) (
 some (.pan (.iface 47 (.agg [.int .i64 1])) [some ⟨.var [.cl (.sli .u8 r2), .cl (.int .i64 d)], false⟩]))
 (
 let x39 : Int := IntKind.i64.wrap (r1 - 128)
 shut (qcn
 (fun y40 y41 y42 y43 y44 y45 y46 y47 =>
 some (.pan (.iface 47 (.agg [.int .i64 1])) [some ⟨.var [.cl (.sli .u8 y46), .cl (.int .i64 y47)], false⟩]))
 (fun y48 y49 y50 y51 y52 y53 =>
 let r54 : Int := qbr y49
 let x55 : Int := IntKind.i64.wrap ((1 : Int) + y48)
 let x56 : Int := IntKind.i64.wrap (x55 - 128)
 cond (decide (r54 = x56)) (
 some (.ret [.cl (.int .i64 y49)] [some ⟨.var [.cl (.sli .u8 y52), .cl (.int .i64 y53)], false⟩]))
 (
 cond (true) (
 some (.pan (.iface 47 (.agg [.int .i64 1])) [some ⟨.var [.cl (.sli .u8 y52), .cl (.int .i64 y53)], false⟩]))
 (
 some (.ret [.cl (.int .i64 y49)] [some ⟨.var [.cl (.sli .u8 y52), .cl (.int .i64 y53)], false⟩]))))
 FUEL) r1 0 x39 0 r2 d))))) none
theorem q6x (l : LI) (d : Int) : qcc Tryd.prog (EDLength) 40 false Tryd.f32 [.ptr 0 0 0] [⟨.var [.cl (.sli .u8 l), .cl (.int .i64 d)], false⟩] = q3y l d := by kernel_rfl

noncomputable def EDValue (rk : Nat) : Env := {
 orc := fun g => cond (Nat.beq g 18) SDBoxed (cond (Nat.beq g 23) SDMust (cond (Nat.beq g 30) SDNext (cond (Nat.beq g 31) SDKnown (cond (Nat.beq g 32) SDLength (cond (Nat.beq g 33) SDParts (cond (Nat.beq g 34) SDFits (cond (Nat.beq g 35) SSClone (fun _ _ => Tree.fail))))))))
 pre := fun g => cond (Nat.beq g 18) qke (cond (Nat.beq g 23) qow (cond (Nat.beq g 30) q01 (cond (Nat.beq g 31) qw7 (cond (Nat.beq g 32) qz7 (cond (Nat.beq g 33) (qs3 (rk)) (cond (Nat.beq g 34) q3l (cond (Nat.beq g 35) q6k (fun _ _ => true))))))))
 byref := fun g => cond (Nat.beq g 30) ([0]) (cond (Nat.beq g 32) ([0]) (cond (Nat.beq g 33) ([0]) ([])))
 spl := fun g => cond (Nat.beq g 23) (some 0) (none)
 glob := qb9
 nt := 56
}
theorem q6y (rk : Nat) : ∀ c, Tryd.f22.body = some c -> qaq Tryd.prog (EDValue rk) 40 c := by
 intro c hc
 cases hc
 exact qaj _ (by kernel_rfl)
noncomputable def q5x (rk : Nat) (l : LI) (d : Int) : OO :=
 cond (decide ((0 : Int) < d)) (
 cond (qad l) (
 cond (l.isEmpty) (
 some (.pan (.iface 47 (.agg [.int .i64 1])) [some ⟨.var [.cl (.sli .u8 l), .cl (.int .i64 d)], false⟩]))
 (
 let r1 : Int := l.headD 0
 let r2 : LI := l.tail
 let r3 : Bool := qcv r1
 cond (r3) (
 cond (qad r2) (
 cond (!(qph r2)) (
 let r4 : LI := qfg r2
 some (.pan (.iface 47 (.agg [.int .i64 1])) [some ⟨.var [.cl (.sli .u8 r4), .cl (.int .i64 d)], false⟩]))
 (
 let r5 : Int := (qdl r2).1
 let r6 : LI := (qdl r2).2
 cond (decide (r5 <= ((r6.length : Nat) : Int))) (
 cond (decide ((0 : Int) <= r5)) (
 cond (decide (r5 <= ((r6.length : Nat) : Int))) (
 let l7 : LI := List.take (Int.toNat r5) r6
 cond (decide ((0 : Int) <= r5)) (
 cond (decide (r5 <= ((r6.length : Nat) : Int))) (
 let l8 : LI := List.drop (Int.toNat r5) r6
 let r9 : Bool := qbe r1
 cond (r9) (
 cond (qad l7 && (qcb d && decide (0 < d /\ d.toNat < rk + 1))) (
 cond (!(decide ((qa6 r1 l7 d).1 = 0))) (
 let r10 : Int := (qa6 r1 l7 d).1
 some (.pan (.iface 47 (.agg [.int .i64 r10])) [some ⟨.var [.cl (.sli .u8 l8), .cl (.int .i64 d)], false⟩]))
 (
 let r11 : Int := (qa6 r1 l7 d).2.1
 let r12 : LI := (qa6 r1 l7 d).2.2.1
 let r13 : LC := (qa6 r1 l7 d).2.2.2
 some (.ret [.cl (.agg [.int .i64 r11, .sli .u8 r12, .slg 3 r13])] [some ⟨.var [.cl (.sli .u8 l8), .cl (.int .i64 d)], false⟩]))) none)
 (
 cond (qad l7) (
 let r14 : Bool := qc3 r1 l7
 cond (r14) (
 cond (qif l7) (
 some (.ret [.cl (.agg [.int .i64 r1, .sli .u8 l7, .slg 3 []])] [some ⟨.var [.cl (.sli .u8 l8), .cl (.int .i64 d)], false⟩])) none)
 (
 cond (true) (
 some (.pan (.iface 47 (.agg [.int .i64 5])) [some ⟨.var [.cl (.sli .u8 l8), .cl (.int .i64 d)], false⟩]))
 (
 cond (qif l7) (
 some (.ret [.cl (.agg [.int .i64 r1, .sli .u8 l7, .slg 3 []])] [some ⟨.var [.cl (.sli .u8 l8), .cl (.int .i64 d)], false⟩])) none))) none)) none) none) none) none)
 (
 cond (true) (
 some (.pan (.iface 47 (.agg [.int .i64 1])) [some ⟨.var [.cl (.sli .u8 r6), .cl (.int .i64 d)], false⟩]))
 (
 cond (decide ((0 : Int) <= r5)) (
 cond (decide (r5 <= ((r6.length : Nat) : Int))) (
 let l15 : LI := List.take (Int.toNat r5) r6
 cond (decide ((0 : Int) <= r5)) (
 cond (decide (r5 <= ((r6.length : Nat) : Int))) (
 let l16 : LI := List.drop (Int.toNat r5) r6
 let r17 : Bool := qbe r1
 cond (r17) (
 cond (qad l15 && (qcb d && decide (0 < d /\ d.toNat < rk + 1))) (
 cond (!(decide ((qa6 r1 l15 d).1 = 0))) (
 let r18 : Int := (qa6 r1 l15 d).1
 some (.pan (.iface 47 (.agg [.int .i64 r18])) [some ⟨.var [.cl (.sli .u8 l16), .cl (.int .i64 d)], false⟩]))
 (
 let r19 : Int := (qa6 r1 l15 d).2.1
 let r20 : LI := (qa6 r1 l15 d).2.2.1
 let r21 : LC := (qa6 r1 l15 d).2.2.2
 some (.ret [.cl (.agg [.int .i64 r19, .sli .u8 r20, .slg 3 r21])] [some ⟨.var [.cl (.sli .u8 l16), .cl (.int .i64 d)], false⟩]))) none)
 (
 cond (qad l15) (
 let r22 : Bool := qc3 r1 l15
 cond (r22) (
 cond (qif l15) (
 some (.ret [.cl (.agg [.int .i64 r1, .sli .u8 l15, .slg 3 []])] [some ⟨.var [.cl (.sli .u8 l16), .cl (.int .i64 d)], false⟩])) none)
 (
 cond (true) (
 some (.pan (.iface 47 (.agg [.int .i64 5])) [some ⟨.var [.cl (.sli .u8 l16), .cl (.int .i64 d)], false⟩]))
 (
 cond (qif l15) (
 some (.ret [.cl (.agg [.int .i64 r1, .sli .u8 l15, .slg 3 []])] [some ⟨.var [.cl (.sli .u8 l16), .cl (.int .i64 d)], false⟩])) none))) none)) none) none) none) none)))) none)
 (
 cond (true) (
 some (.pan (.iface 47 (.agg [.int .i64 4])) [some ⟨.var [.cl (.sli .u8 r2), .cl (.int .i64 d)], false⟩]))
 (
 cond (qad r2) (
 cond (!(qph r2)) (
 let r23 : LI := qfg r2
 some (.pan (.iface 47 (.agg [.int .i64 1])) [some ⟨.var [.cl (.sli .u8 r23), .cl (.int .i64 d)], false⟩]))
 (
 let r24 : Int := (qdl r2).1
 let r25 : LI := (qdl r2).2
 cond (decide (r24 <= ((r25.length : Nat) : Int))) (
 cond (decide ((0 : Int) <= r24)) (
 cond (decide (r24 <= ((r25.length : Nat) : Int))) (
 let l26 : LI := List.take (Int.toNat r24) r25
 cond (decide ((0 : Int) <= r24)) (
 cond (decide (r24 <= ((r25.length : Nat) : Int))) (
 let l27 : LI := List.drop (Int.toNat r24) r25
 let r28 : Bool := qbe r1
 cond (r28) (
 cond (qad l26 && (qcb d && decide (0 < d /\ d.toNat < rk + 1))) (
 cond (!(decide ((qa6 r1 l26 d).1 = 0))) (
 let r29 : Int := (qa6 r1 l26 d).1
 some (.pan (.iface 47 (.agg [.int .i64 r29])) [some ⟨.var [.cl (.sli .u8 l27), .cl (.int .i64 d)], false⟩]))
 (
 let r30 : Int := (qa6 r1 l26 d).2.1
 let r31 : LI := (qa6 r1 l26 d).2.2.1
 let r32 : LC := (qa6 r1 l26 d).2.2.2
 some (.ret [.cl (.agg [.int .i64 r30, .sli .u8 r31, .slg 3 r32])] [some ⟨.var [.cl (.sli .u8 l27), .cl (.int .i64 d)], false⟩]))) none)
 (
 cond (qad l26) (
 let r33 : Bool := qc3 r1 l26
 cond (r33) (
 cond (qif l26) (
 some (.ret [.cl (.agg [.int .i64 r1, .sli .u8 l26, .slg 3 []])] [some ⟨.var [.cl (.sli .u8 l27), .cl (.int .i64 d)], false⟩])) none)
 (
 cond (true) (
 some (.pan (.iface 47 (.agg [.int .i64 5])) [some ⟨.var [.cl (.sli .u8 l27), .cl (.int .i64 d)], false⟩]))
 (
 cond (qif l26) (
 some (.ret [.cl (.agg [.int .i64 r1, .sli .u8 l26, .slg 3 []])] [some ⟨.var [.cl (.sli .u8 l27), .cl (.int .i64 d)], false⟩])) none))) none)) none) none) none) none)
 (
 cond (true) (
 some (.pan (.iface 47 (.agg [.int .i64 1])) [some ⟨.var [.cl (.sli .u8 r25), .cl (.int .i64 d)], false⟩]))
 (
 cond (decide ((0 : Int) <= r24)) (
 cond (decide (r24 <= ((r25.length : Nat) : Int))) (
 let l34 : LI := List.take (Int.toNat r24) r25
 cond (decide ((0 : Int) <= r24)) (
 cond (decide (r24 <= ((r25.length : Nat) : Int))) (
 let l35 : LI := List.drop (Int.toNat r24) r25
 let r36 : Bool := qbe r1
 cond (r36) (
 cond (qad l34 && (qcb d && decide (0 < d /\ d.toNat < rk + 1))) (
 cond (!(decide ((qa6 r1 l34 d).1 = 0))) (
 let r37 : Int := (qa6 r1 l34 d).1
 some (.pan (.iface 47 (.agg [.int .i64 r37])) [some ⟨.var [.cl (.sli .u8 l35), .cl (.int .i64 d)], false⟩]))
 (
 let r38 : Int := (qa6 r1 l34 d).2.1
 let r39 : LI := (qa6 r1 l34 d).2.2.1
 let r40 : LC := (qa6 r1 l34 d).2.2.2
 some (.ret [.cl (.agg [.int .i64 r38, .sli .u8 r39, .slg 3 r40])] [some ⟨.var [.cl (.sli .u8 l35), .cl (.int .i64 d)], false⟩]))) none)
 (
 cond (qad l34) (
 let r41 : Bool := qc3 r1 l34
 cond (r41) (
 cond (qif l34) (
 some (.ret [.cl (.agg [.int .i64 r1, .sli .u8 l34, .slg 3 []])] [some ⟨.var [.cl (.sli .u8 l35), .cl (.int .i64 d)], false⟩])) none)
 (
 cond (true) (
 some (.pan (.iface 47 (.agg [.int .i64 5])) [some ⟨.var [.cl (.sli .u8 l35), .cl (.int .i64 d)], false⟩]))
 (
 cond (qif l34) (
 some (.ret [.cl (.agg [.int .i64 r1, .sli .u8 l34, .slg 3 []])] [some ⟨.var [.cl (.sli .u8 l35), .cl (.int .i64 d)], false⟩])) none))) none)) none) none) none) none)))) none)))) none)
 (
 cond (true) (
 some (.pan (.iface 47 (.agg [.int .i64 3])) [some ⟨.var [.cl (.sli .u8 l), .cl (.int .i64 d)], false⟩]))
 (
 cond (qad l) (
 cond (l.isEmpty) (
 some (.pan (.iface 47 (.agg [.int .i64 1])) [some ⟨.var [.cl (.sli .u8 l), .cl (.int .i64 d)], false⟩]))
 (
 let r42 : Int := l.headD 0
 let r43 : LI := l.tail
 let r44 : Bool := qcv r42
 cond (r44) (
 cond (qad r43) (
 cond (!(qph r43)) (
 let r45 : LI := qfg r43
 some (.pan (.iface 47 (.agg [.int .i64 1])) [some ⟨.var [.cl (.sli .u8 r45), .cl (.int .i64 d)], false⟩]))
 (
 let r46 : Int := (qdl r43).1
 let r47 : LI := (qdl r43).2
 cond (decide (r46 <= ((r47.length : Nat) : Int))) (
 cond (decide ((0 : Int) <= r46)) (
 cond (decide (r46 <= ((r47.length : Nat) : Int))) (
 let l48 : LI := List.take (Int.toNat r46) r47
 cond (decide ((0 : Int) <= r46)) (
 cond (decide (r46 <= ((r47.length : Nat) : Int))) (
 let l49 : LI := List.drop (Int.toNat r46) r47
 let r50 : Bool := qbe r42
 cond (r50) (
 cond (qad l48 && (qcb d && decide (0 < d /\ d.toNat < rk + 1))) (
 cond (!(decide ((qa6 r42 l48 d).1 = 0))) (
 let r51 : Int := (qa6 r42 l48 d).1
 some (.pan (.iface 47 (.agg [.int .i64 r51])) [some ⟨.var [.cl (.sli .u8 l49), .cl (.int .i64 d)], false⟩]))
 (
 let r52 : Int := (qa6 r42 l48 d).2.1
 let r53 : LI := (qa6 r42 l48 d).2.2.1
 let r54 : LC := (qa6 r42 l48 d).2.2.2
 some (.ret [.cl (.agg [.int .i64 r52, .sli .u8 r53, .slg 3 r54])] [some ⟨.var [.cl (.sli .u8 l49), .cl (.int .i64 d)], false⟩]))) none)
 (
 cond (qad l48) (
 let r55 : Bool := qc3 r42 l48
 cond (r55) (
 cond (qif l48) (
 some (.ret [.cl (.agg [.int .i64 r42, .sli .u8 l48, .slg 3 []])] [some ⟨.var [.cl (.sli .u8 l49), .cl (.int .i64 d)], false⟩])) none)
 (
 cond (true) (
 some (.pan (.iface 47 (.agg [.int .i64 5])) [some ⟨.var [.cl (.sli .u8 l49), .cl (.int .i64 d)], false⟩]))
 (
 cond (qif l48) (
 some (.ret [.cl (.agg [.int .i64 r42, .sli .u8 l48, .slg 3 []])] [some ⟨.var [.cl (.sli .u8 l49), .cl (.int .i64 d)], false⟩])) none))) none)) none) none) none) none)
 (
 cond (true) (
 some (.pan (.iface 47 (.agg [.int .i64 1])) [some ⟨.var [.cl (.sli .u8 r47), .cl (.int .i64 d)], false⟩]))
 (
 cond (decide ((0 : Int) <= r46)) (
 cond (decide (r46 <= ((r47.length : Nat) : Int))) (
 let l56 : LI := List.take (Int.toNat r46) r47
 cond (decide ((0 : Int) <= r46)) (
 cond (decide (r46 <= ((r47.length : Nat) : Int))) (
 let l57 : LI := List.drop (Int.toNat r46) r47
 let r58 : Bool := qbe r42
 cond (r58) (
 cond (qad l56 && (qcb d && decide (0 < d /\ d.toNat < rk + 1))) (
 cond (!(decide ((qa6 r42 l56 d).1 = 0))) (
 let r59 : Int := (qa6 r42 l56 d).1
 some (.pan (.iface 47 (.agg [.int .i64 r59])) [some ⟨.var [.cl (.sli .u8 l57), .cl (.int .i64 d)], false⟩]))
 (
 let r60 : Int := (qa6 r42 l56 d).2.1
 let r61 : LI := (qa6 r42 l56 d).2.2.1
 let r62 : LC := (qa6 r42 l56 d).2.2.2
 some (.ret [.cl (.agg [.int .i64 r60, .sli .u8 r61, .slg 3 r62])] [some ⟨.var [.cl (.sli .u8 l57), .cl (.int .i64 d)], false⟩]))) none)
 (
 cond (qad l56) (
 let r63 : Bool := qc3 r42 l56
 cond (r63) (
 cond (qif l56) (
 some (.ret [.cl (.agg [.int .i64 r42, .sli .u8 l56, .slg 3 []])] [some ⟨.var [.cl (.sli .u8 l57), .cl (.int .i64 d)], false⟩])) none)
 (
 cond (true) (
 some (.pan (.iface 47 (.agg [.int .i64 5])) [some ⟨.var [.cl (.sli .u8 l57), .cl (.int .i64 d)], false⟩]))
 (
 cond (qif l56) (
 some (.ret [.cl (.agg [.int .i64 r42, .sli .u8 l56, .slg 3 []])] [some ⟨.var [.cl (.sli .u8 l57), .cl (.int .i64 d)], false⟩])) none))) none)) none) none) none) none)))) none)
 (
 cond (true) (
 some (.pan (.iface 47 (.agg [.int .i64 4])) [some ⟨.var [.cl (.sli .u8 r43), .cl (.int .i64 d)], false⟩]))
 (
 cond (qad r43) (
 cond (!(qph r43)) (
 let r64 : LI := qfg r43
 some (.pan (.iface 47 (.agg [.int .i64 1])) [some ⟨.var [.cl (.sli .u8 r64), .cl (.int .i64 d)], false⟩]))
 (
 let r65 : Int := (qdl r43).1
 let r66 : LI := (qdl r43).2
 cond (decide (r65 <= ((r66.length : Nat) : Int))) (
 cond (decide ((0 : Int) <= r65)) (
 cond (decide (r65 <= ((r66.length : Nat) : Int))) (
 let l67 : LI := List.take (Int.toNat r65) r66
 cond (decide ((0 : Int) <= r65)) (
 cond (decide (r65 <= ((r66.length : Nat) : Int))) (
 let l68 : LI := List.drop (Int.toNat r65) r66
 let r69 : Bool := qbe r42
 cond (r69) (
 cond (qad l67 && (qcb d && decide (0 < d /\ d.toNat < rk + 1))) (
 cond (!(decide ((qa6 r42 l67 d).1 = 0))) (
 let r70 : Int := (qa6 r42 l67 d).1
 some (.pan (.iface 47 (.agg [.int .i64 r70])) [some ⟨.var [.cl (.sli .u8 l68), .cl (.int .i64 d)], false⟩]))
 (
 let r71 : Int := (qa6 r42 l67 d).2.1
 let r72 : LI := (qa6 r42 l67 d).2.2.1
 let r73 : LC := (qa6 r42 l67 d).2.2.2
 some (.ret [.cl (.agg [.int .i64 r71, .sli .u8 r72, .slg 3 r73])] [some ⟨.var [.cl (.sli .u8 l68), .cl (.int .i64 d)], false⟩]))) none)
 (
 cond (qad l67) (
 let r74 : Bool := qc3 r42 l67
 cond (r74) (
 cond (qif l67) (
 some (.ret [.cl (.agg [.int .i64 r42, .sli .u8 l67, .slg 3 []])] [some ⟨.var [.cl (.sli .u8 l68), .cl (.int .i64 d)], false⟩])) none)
 (
 cond (true) (
 some (.pan (.iface 47 (.agg [.int .i64 5])) [some ⟨.var [.cl (.sli .u8 l68), .cl (.int .i64 d)], false⟩]))
 (
 cond (qif l67) (
 some (.ret [.cl (.agg [.int .i64 r42, .sli .u8 l67, .slg 3 []])] [some ⟨.var [.cl (.sli .u8 l68), .cl (.int .i64 d)], false⟩])) none))) none)) none) none) none) none)
 (
 cond (true) (
 some (.pan (.iface 47 (.agg [.int .i64 1])) [some ⟨.var [.cl (.sli .u8 r66), .cl (.int .i64 d)], false⟩]))
 (
 cond (decide ((0 : Int) <= r65)) (
 cond (decide (r65 <= ((r66.length : Nat) : Int))) (
 let l75 : LI := List.take (Int.toNat r65) r66
 cond (decide ((0 : Int) <= r65)) (
 cond (decide (r65 <= ((r66.length : Nat) : Int))) (
 let l76 : LI := List.drop (Int.toNat r65) r66
 let r77 : Bool := qbe r42
 cond (r77) (
 cond (qad l75 && (qcb d && decide (0 < d /\ d.toNat < rk + 1))) (
 cond (!(decide ((qa6 r42 l75 d).1 = 0))) (
 let r78 : Int := (qa6 r42 l75 d).1
 some (.pan (.iface 47 (.agg [.int .i64 r78])) [some ⟨.var [.cl (.sli .u8 l76), .cl (.int .i64 d)], false⟩]))
 (
 let r79 : Int := (qa6 r42 l75 d).2.1
 let r80 : LI := (qa6 r42 l75 d).2.2.1
 let r81 : LC := (qa6 r42 l75 d).2.2.2
 some (.ret [.cl (.agg [.int .i64 r79, .sli .u8 r80, .slg 3 r81])] [some ⟨.var [.cl (.sli .u8 l76), .cl (.int .i64 d)], false⟩]))) none)
 (
 cond (qad l75) (
 let r82 : Bool := qc3 r42 l75
 cond (r82) (
 cond (qif l75) (
 some (.ret [.cl (.agg [.int .i64 r42, .sli .u8 l75, .slg 3 []])] [some ⟨.var [.cl (.sli .u8 l76), .cl (.int .i64 d)], false⟩])) none)
 (
 cond (true) (
 some (.pan (.iface 47 (.agg [.int .i64 5])) [some ⟨.var [.cl (.sli .u8 l76), .cl (.int .i64 d)], false⟩]))
 (
 cond (qif l75) (
 some (.ret [.cl (.agg [.int .i64 r42, .sli .u8 l75, .slg 3 []])] [some ⟨.var [.cl (.sli .u8 l76), .cl (.int .i64 d)], false⟩])) none))) none)) none) none) none) none)))) none)))) none))
theorem q9v (rk : Nat) (l : LI) (d : Int) : qcc Tryd.prog (EDValue rk) 40 false Tryd.f22 [.ptr 0 0 0] [⟨.var [.cl (.sli .u8 l), .cl (.int .i64 d)], false⟩] = q5x rk l d := by kernel_rfl

abbrev q4c := Int -> Nat -> LI -> Int -> LI -> Int -> Int -> Nat -> LC -> LI -> Int -> LC -> OO
noncomputable def qk5 (rk : Nat) (again : Int -> Nat -> LI -> Int -> Int -> Nat -> LC -> LI -> Int -> LC -> OO) (k0 : Int -> LI -> Int -> OO) (k1 : q4c) (v1 : Int) (v2 : Nat) (v3 : LI) (v4 v5 : Int) (v6 : Nat) (v7 : LC) (v8 : LI) (v9 : Int) (v10 : LC) : OO :=
 cond (decide ((0 : Int) < ((v8.length : Nat) : Int))) (
 cond (qad v8 && (qcb v9 && decide (v9.toNat < rk))) (
 cond (!(decide ((qlh v8 v9).1 = 0))) (
 let r2 : Int := (qlh v8 v9).1
 k0 r2 v3 v4)
 (
 let r4 : Int := (qlh v8 v9).2.1.1
 let r5 : LI := (qlh v8 v9).2.1.2.1
 let r6 : LC := (qlh v8 v9).2.1.2.2
 let r7 : LI := (qlh v8 v9).2.2
 let l8 : LC := v10 ++ ([.agg [.int .i64 r4, .sli .u8 r5, .slg 3 r6]])
 cond (decide (((l8.length : Nat) : Int) * 56 <= LIM)) (
 cond (decide (((l8.length : Nat) : Int) <= LIM)) (
 let x9 : Int := IntKind.i64.wrap (((v8.length : Nat) : Int) - ((r7.length : Nat) : Int))
 cond (decide ((0 : Int) <= x9)) (
 cond (decide (x9 <= ((v8.length : Nat) : Int))) (
 let l10 : LI := List.take (Int.toNat x9) v8
 let l11 : LC := v7 ++ [.sli .u8 l10]
 cond (decide (((l11.length : Nat) : Int) * 24 <= LIM)) (
 cond (decide (((l11.length : Nat) : Int) <= LIM)) (
 again v1 l11.length v3 v4 v5 l8.length l11 r7 v9 l8) none) none) none) none) none) none)) none)
 (
 k1 v1 v2 v8 ((v8.length : Nat) : Int) v3 v4 v5 v6 v7 v8 v9 v10)
noncomputable def qe3 (rk : Nat) (k0 : Int -> LI -> Int -> OO) (k1 : q4c) : Nat -> Int -> Nat -> LI -> Int -> Int -> Nat -> LC -> LI -> Int -> LC -> OO
 | 0 => fun _ _ _ _ _ _ _ _ _ _ => none
 | n + 1 => qk5 rk (qe3 rk k0 k1 n) k0 k1
noncomputable def qjq (k : KT) : Int -> LI -> Int -> OO := fun y1 y2 y3 => k (.pan (.iface 47 (.agg [.int .i64 y1]))) ⟨[], [(0, ⟨.var [qS y2, qI y3], false⟩)]⟩
noncomputable def qip (k : KT) : q4c := fun y1 y2 y3 y4 y5 y6 y7 y8 y9 y10 y11 y12 => k (.exit 0) ⟨[(0, .ptr 0 0 0), (1, qI y1), (6, .ptr 70 0 0), (7, .ptr 71 0 0), (8, .ref 72 0 y2 true 1), (9, .ptr 84 0 0), (21, .ptr 84 0 0), (22, .ptr 84 0 0), (23, .ptr 84 0 0), (24, qS y3), (25, qI y4), (26, qB false)], [(0, ⟨.var [qS y5, qI y6], false⟩), (70, ⟨.var [qI 0, .nils, .nils], false⟩), (71, ⟨.var [qI y7, .nils, .ref 100 0 y8 true 3], false⟩), (72, ⟨.gen 1 y9, false⟩), (84, ⟨.var [qS y10, qI y11], false⟩), (100, ⟨.gen 3 y12, false⟩)]⟩
noncomputable def qwf (rk : Nat) : St -> (KT) -> OO := fun σ k => match σ with
 | ⟨[(q1, .ptr q2 q3 q4), (q5, .cl (.int .i64 v1)), (q6, .ptr q7 q8 q9), (q10, .ptr q11 q12 q13), (q14, .ref q15 q16 v2 true q17), (q18, .ptr q19 q20 q21)], [(q22, ⟨.var [.cl (.sli .u8 v3), .cl (.int .i64 v4)], false⟩), (q23, ⟨.var [.cl (.int .i64 q24), .nils, .nils], false⟩), (q25, ⟨.var [.cl (.int .i64 v5), .nils, .ref q26 q27 v6 true q28], false⟩), (q29, ⟨.gen q30 v7, false⟩), (q31, ⟨.var [.cl (.sli .u8 v8), .cl (.int .i64 v9)], false⟩), (q32, ⟨.gen q33 v10, false⟩)]⟩ => cond (Nat.beq q1 0 && Nat.beq q2 0 && Nat.beq q3 0 && Nat.beq q4 0 && Nat.beq q5 1 && Nat.beq q6 6 && Nat.beq q7 70 && Nat.beq q8 0 && Nat.beq q9 0 && Nat.beq q10 7 && Nat.beq q11 71 && Nat.beq q12 0 && Nat.beq q13 0 && Nat.beq q14 8 && Nat.beq q15 72 && Nat.beq q16 0 && Nat.beq q17 1 && Nat.beq q18 9 && Nat.beq q19 84 && Nat.beq q20 0 && Nat.beq q21 0 && Nat.beq q22 0 && Nat.beq q23 70 && decide (q24 = 0) && Nat.beq q25 71 && Nat.beq q26 100 && Nat.beq q27 0 && Nat.beq q28 3 && Nat.beq q29 72 && Nat.beq q30 1 && Nat.beq q31 84 && Nat.beq q32 100 && Nat.beq q33 3) (shut (qe3 rk (qjq k) (qip k) FUEL) v1 v2 v3 v4 v5 v6 v7 v8 v9 v10) none
 | _ => none
noncomputable def EDParts (rk : Nat) : Env := {
 orc := fun g => cond (Nat.beq g 22) SDValue (cond (Nat.beq g 23) SDMust (cond (Nat.beq g 42) SOSorted (fun _ _ => Tree.fail)))
 pre := fun g => cond (Nat.beq g 22) (qjm (rk)) (cond (Nat.beq g 23) qow (cond (Nat.beq g 42) qtu (fun _ _ => true)))
 byref := fun g => cond (Nat.beq g 22) ([0]) ([])
 spl := fun g => cond (Nat.beq g 23) (some 0) (none)
 live := fun r => cond (Nat.beq r 4) ([0, 1, 6, 7, 8, 9]) ([])
 ren := fun r => cond (Nat.beq r 4) ([(114, 72)]) ([])
 vir := fun r => cond (Nat.beq r 4) ([(71, 2, 100, .gen 3 [])]) ([])
 glob := qb9
 nt := 59
 lp := fun r => cond (Nat.beq r 4) (some (qwf rk)) (none)
}
noncomputable def qk4 : Code := (Cd.fst (Cd.fst (Cd.fst (Cd.snd (Cd.snd (Cd.snd (Cd.snd (Tryd.f33.body.getD .skip))))))))
theorem qt7 (rk : Nat) (k : KT) (n : Nat) (v1 : Int) (v2 : Nat) (v3 : LI) (v4 v5 : Int) (v6 : Nat) (v7 : LC) (v8 : LI) (v9 : Int) (v10 : LC) : qbg (n + 1) (qa1 Tryd.prog (EDParts rk) 40 qk4) (head (EDParts rk) 4) ⟨[(0, .ptr 0 0 0), (1, qI v1), (6, .ptr 70 0 0), (7, .ptr 71 0 0), (8, .ref 72 0 v2 true 1), (9, .ptr 84 0 0)], [(0, ⟨.var [qS v3, qI v4], false⟩), (70, ⟨.var [qI 0, .nils, .nils], false⟩), (71, ⟨.var [qI v5, .nils, .ref 100 0 v6 true 3], false⟩), (72, ⟨.gen 1 v7, false⟩), (84, ⟨.var [qS v8, qI v9], false⟩), (100, ⟨.gen 3 v10, false⟩)]⟩ k = qk5 rk (fun v1 v2 v3 v4 v5 v6 v7 v8 v9 v10 => qbg n (qa1 Tryd.prog (EDParts rk) 40 qk4) (head (EDParts rk) 4) ⟨[(0, .ptr 0 0 0), (1, qI v1), (6, .ptr 70 0 0), (7, .ptr 71 0 0), (8, .ref 72 0 v2 true 1), (9, .ptr 84 0 0)], [(0, ⟨.var [qS v3, qI v4], false⟩), (70, ⟨.var [qI 0, .nils, .nils], false⟩), (71, ⟨.var [qI v5, .nils, .ref 100 0 v6 true 3], false⟩), (72, ⟨.gen 1 v7, false⟩), (84, ⟨.var [qS v8, qI v9], false⟩), (100, ⟨.gen 3 v10, false⟩)]⟩ k) (qjq k) (qip k) v1 v2 v3 v4 v5 v6 v7 v8 v9 v10 := by kernel_rfl
theorem qpb (rk : Nat) (k : KT) : ∀ (n : Nat), ∀ (v1 : Int) (v2 : Nat) (v3 : LI) (v4 v5 : Int) (v6 : Nat) (v7 : LC) (v8 : LI) (v9 : Int) (v10 : LC), qbg n (qa1 Tryd.prog (EDParts rk) 40 qk4) (head (EDParts rk) 4) ⟨[(0, .ptr 0 0 0), (1, qI v1), (6, .ptr 70 0 0), (7, .ptr 71 0 0), (8, .ref 72 0 v2 true 1), (9, .ptr 84 0 0)], [(0, ⟨.var [qS v3, qI v4], false⟩), (70, ⟨.var [qI 0, .nils, .nils], false⟩), (71, ⟨.var [qI v5, .nils, .ref 100 0 v6 true 3], false⟩), (72, ⟨.gen 1 v7, false⟩), (84, ⟨.var [qS v8, qI v9], false⟩), (100, ⟨.gen 3 v10, false⟩)]⟩ k = qe3 rk (qjq k) (qip k) n v1 v2 v3 v4 v5 v6 v7 v8 v9 v10
 | 0 => by intros; rfl
 | n + 1 => by
  intros
  rw [qt7]
  have ih := qpb rk k n
  simp only [qe3, ih]
theorem q36 (rk : Nat) : ∀ (σ : St) (k : KT) (r : Out), qwf rk σ k = some r -> ∃ n, qbg n (qa1 Tryd.prog (EDParts rk) 40 qk4) (head (EDParts rk) 4) σ k = some r := by
 intro σ k r h
 unfold qwf at h
 split at h
 ·replace h := qaa h
  obtain ⟨hc, h⟩ := h
  simp only [Bool.and_eq_true, qa7, decide_eq_true_eq, Bool.not_eq_true'] at hc
  obtain ⟨⟨⟨⟨⟨⟨⟨⟨⟨⟨⟨⟨⟨⟨⟨⟨⟨⟨⟨⟨⟨⟨⟨⟨⟨⟨⟨⟨⟨⟨⟨⟨rfl, rfl⟩, rfl⟩, rfl⟩, rfl⟩, rfl⟩, rfl⟩, rfl⟩, rfl⟩, rfl⟩, rfl⟩, rfl⟩, rfl⟩, rfl⟩, rfl⟩, rfl⟩, rfl⟩, rfl⟩, rfl⟩, rfl⟩, rfl⟩, rfl⟩, rfl⟩, rfl⟩, rfl⟩, rfl⟩, rfl⟩, rfl⟩, rfl⟩, rfl⟩, rfl⟩, rfl⟩, rfl⟩ := hc
  rw [qae] at h
  exact ⟨FUEL, (qpb rk k FUEL _ _ _ _ _ _ _ _ _ _ ).trans h⟩
 ·cases h
theorem q8a (rk : Nat) : ∀ c, Tryd.f33.body = some c -> qaq Tryd.prog (EDParts rk) 40 c := by
 intro c hc
 cases hc
 exact ⟨trivial, ⟨trivial, ⟨trivial, ⟨trivial, ⟨⟨qaj _ (by kernel_rfl), qb5 rfl (q36 rk)⟩, qaj _ (by kernel_rfl), qaf rfl⟩, qaf rfl⟩, qaf rfl⟩, qaf rfl⟩, qaf rfl⟩
noncomputable def xbak (rk : Nat) (tag : Int) (b : LI) (l : LI) (d : Int) : OO :=
 let x1 : Int := IntKind.i64.wrap (d - 1)
 shut (qe3 rk
 (fun y2 y3 y4 =>
 some (.pan (.iface 47 (.agg [.int .i64 y2])) [some ⟨.var [.cl (.sli .u8 y3), .cl (.int .i64 y4)], false⟩]))
 (fun y5 y6 y7 y8 y9 y10 y11 y12 y13 y14 y15 y16 =>
 cond (!decide (y5 = 49)) (
 some (.ret [.cl (.agg [.int .i64 y11, .sli .u8 [], .slg 3 y16])] [some ⟨.var [.cl (.sli .u8 y9), .cl (.int .i64 y10)], false⟩]))
 (
 cond (qga y13) (
 let r17 : Bool := qbi y13
 cond (r17) (
 some (.ret [.cl (.agg [.int .i64 y11, .sli .u8 [], .slg 3 y16])] [some ⟨.var [.cl (.sli .u8 y9), .cl (.int .i64 y10)], false⟩]))
 (
 cond (true) (
 some (.pan (.iface 47 (.agg [.int .i64 6])) [some ⟨.var [.cl (.sli .u8 y9), .cl (.int .i64 y10)], false⟩]))
 (
 some (.ret [.cl (.agg [.int .i64 y11, .sli .u8 [], .slg 3 y16])] [some ⟨.var [.cl (.sli .u8 y9), .cl (.int .i64 y10)], false⟩])))) none))
 FUEL) tag 0 l d tag 0 [] b x1 []
theorem xbbv (rk : Nat) (tag : Int) (b : LI) (l : LI) (d : Int) : qcc Tryd.prog (EDParts rk) 40 false Tryd.f33 [.ptr 0 0 0, .cl (.int .i64 tag), .cl (.sli .u8 b)] [⟨.var [.cl (.sli .u8 l), .cl (.int .i64 d)], false⟩] = xbak rk tag b l d := by kernel_rfl

noncomputable def EDParse : Env := {
 orc := fun g => cond (Nat.beq g 22) SDValue (cond (Nat.beq g 23) SDMust (fun _ _ => Tree.fail))
 pre := fun g => cond (Nat.beq g 22) qxd (cond (Nat.beq g 23) qow (fun _ _ => true))
 byref := fun g => cond (Nat.beq g 22) ([0]) ([])
 spl := fun g => cond (Nat.beq g 23) (some 0) (none)
 glob := qb9
 nt := 23
 rg := false
}
noncomputable def DEDParse : DEnv := {
 rid := 3
 low := [(66, 0), (67, 1)]
 orc := fun g => cond (Nat.beq g 21) DDCatch (fun _ _ _ => none)
 pre := fun g => cond (Nat.beq g 21) qsl (fun _ _ _ => false) }
theorem q8b : ∀ c, Tryd.f9.body = some c -> qaq Tryd.prog (EDParse) 40 c := by
 intro c hc
 cases hc
 exact qaj _ (by kernel_rfl)
noncomputable def gDParse (b : LI) : OO :=
 cond (decide ((1048576 : Int) < ((b.length : Nat) : Int))) (
 some (.ret [.cl (.agg [.int .i64 0, .sli .u8 [], .slg 3 []]), .cl (.int .i64 2)] []))
 (
 cond (qad b && qcb 32) (
 cond (!(decide ((qlh b 32).1 = 0))) (
 let r1 : Int := (qlh b 32).1
 some (.ret [.cl (.agg [.int .i64 0, .sli .u8 [], .slg 3 []]), .cl (.int .i64 r1)] []))
 (
 let r3 : Int := (qlh b 32).2.1.1
 let r4 : LI := (qlh b 32).2.1.2.1
 let r5 : LC := (qlh b 32).2.1.2.2
 let r6 : LI := (qlh b 32).2.2
 cond (decide (((r6.length : Nat) : Int) = 0)) (
 some (.ret [.cl (.agg [.int .i64 r3, .sli .u8 r4, .slg 3 r5]), .cl (.int .i64 0)] []))
 (
 cond (true) (
 some (.ret [.cl (.agg [.int .i64 0, .sli .u8 [], .slg 3 []]), .cl (.int .i64 7)] []))
 (
 some (.ret [.cl (.agg [.int .i64 r3, .sli .u8 r4, .slg 3 r5]), .cl (.int .i64 0)] []))))) none)
theorem gDParse_eq (b : LI) : bodyDK Tryd.prog (EDParse) DEDParse 40 false Tryd.f9 [.cl (.sli .u8 b)] [] = gDParse b := by kernel_rfl

noncomputable def ELAwake : Env := {
 orc := fun g => cond (Nat.beq g 9) SDParse (cond (Nat.beq g 15) SR1Same (fun _ _ => Tree.fail))
 pre := fun g => cond (Nat.beq g 9) q6b (cond (Nat.beq g 15) qra (fun _ _ => true))
 glob := qb9
 nt := 65
}
theorem q9i : ∀ c, Tryd.f8.body = some c -> qaq Tryd.prog (ELAwake) 40 c := by
 intro c hc
 cases hc
 exact qaj _ (by kernel_rfl)
noncomputable def q91  : OO :=
 cond (qad [2, 1, 5]) (
 let r1 : Int := (qar [2, 1, 5]).1.1
 let r2 : LI := (qar [2, 1, 5]).1.2.1
 let r4 : Int := (qar [2, 1, 5]).2
 cond (qad [2, 2, 0, 5]) (
 let r8 : Int := (qar [2, 2, 0, 5]).2
 cond (qad [2, 129, 1, 5]) (
 let r12 : Int := (qar [2, 129, 1, 5]).2
 cond (qad [5, 0, 0]) (
 let r16 : Int := (qar [5, 0, 0]).2
 cond (qad [31, 0]) (
 let r20 : Int := (qar [31, 0]).2
 cond (decide (r4 = 0)) (
 cond (decide (r1 = 2)) (
 cond (qif r2) (
 let r21 : Bool := qbu r2 [5]
 cond (r21) (
 cond (decide (r8 = 5)) (
 cond (decide (r12 = 1)) (
 cond (decide (r16 = 7)) (
 some (.ret [.cl (.bool (decide (r20 = 4)))] []))
 (
 some (.ret [.cl (.bool false)] [])))
 (
 some (.ret [.cl (.bool false)] [])))
 (
 some (.ret [.cl (.bool false)] [])))
 (
 some (.ret [.cl (.bool false)] []))) none)
 (
 some (.ret [.cl (.bool false)] [])))
 (
 some (.ret [.cl (.bool false)] []))) none) none) none) none) none
theorem q93  : qcc Tryd.prog (ELAwake) 40 false Tryd.f8 [] [] = q91  := by kernel_rfl

abbrev xbaf := Int -> Nat -> Int -> Int -> LI -> OO
noncomputable def qrw (again : xbaf) (k0 : xbaf) (v1 : Int) (v2 : Nat) (v3 v4 : Int) (v5 : LI) : OO :=
 cond (decide (v4 < v3)) (
 let x5 : Int := IntKind.u8.wrap ((v2 : Nat) : Int)
 let l6 : LI := (shut [48, x5]) ++ v5
 cond (decide (((l6.length : Nat) : Int) * 1 <= LIM)) (
 cond (decide (((l6.length : Nat) : Int) <= LIM)) (
 let x7 : Int := IntKind.i64.wrap (v4 + 1)
 again v1 l6.length v3 x7 l6) none) none)
 (
 k0 v1 v2 v3 v4 v5)
noncomputable def qq7 (k0 : xbaf) : Nat -> Int -> Nat -> Int -> Int -> LI -> OO
 | 0 => fun _ _ _ _ _ => none
 | n + 1 => qrw (qq7 k0 n) k0
noncomputable def gLDeep (n : Int) : OO :=
 let x1 : Int := Int.tmod n 60
 let x2 : Int := IntKind.i64.wrap x1
 let x3 : Int := IntKind.i64.wrap ((1 : Int) + x2)
 let x4 : Int := IntKind.i64.wrap (x3 - 1)
 shut (qq7
 (fun y5 y6 y7 y8 y9 =>
 cond (decide ((127 : Int) < ((y6 : Nat) : Int))) (
 let r10 : Bool := true
 some (.ret [.cl (.bool r10)] []))
 (
 cond (qad y9) (
 let r14 : Int := (qar y9).2
 cond (((decide (r14 = 0)) == (decide (y5 <= 32)))) (
 cond (decide (r14 = 0)) (
 let r15 : Bool := true
 some (.ret [.cl (.bool r15)] []))
 (
 cond (decide (r14 = 3)) (
 let r16 : Bool := true
 some (.ret [.cl (.bool r16)] []))
 (
 some (.ret [.cl (.bool false)] []))))
 (
 some (.ret [.cl (.bool false)] []))) none))
 FUEL) x3 2 x4 0 [5, 0]
noncomputable def EDSame (rk : Nat) : Env := {
 orc := fun g => cond (Nat.beq g 20) SDSame (cond (Nat.beq g 28) SSEqual (cond (Nat.beq g 29) SEqF (fun _ _ => Tree.fail)))
 pre := fun g => cond (Nat.beq g 20) (qd3 (rk)) (cond (Nat.beq g 28) q5s (cond (Nat.beq g 29) (xbav (rk)) (fun _ _ => true)))
 glob := qb9
 nt := 24
}
theorem loopsDSame (rk : Nat) : ∀ c, Tryd.f20.body = some c -> qaq Tryd.prog (EDSame rk) 40 c := by
 intro c hc
 cases hc
 exact qaj _ (by kernel_rfl)
noncomputable def gDSame (rk : Nat) (ta : Int) (ba : LI) (ka : LC) (tb : Int) (bb : LI) (kb : LC) : OO :=
 cond (decide (ta = tb)) (
 cond (qif ba) (
 let r1 : Bool := qbu ba bb
 cond (r1) (
 cond (isNsr rk ka && isNs kb) (
 let r2 : Bool := qut ka kb
 some (.ret [.cl (.bool r2)] [])) none)
 (
 some (.ret [.cl (.bool false)] []))) none)
 (
 some (.ret [.cl (.bool false)] []))
theorem gDSame_eq (rk : Nat) (ta : Int) (ba : LI) (ka : LC) (tb : Int) (bb : LI) (kb : LC) : qcc Tryd.prog (EDSame rk) 40 false Tryd.f20 [.cl (.agg [.int .i64 ta, .sli .u8 ba, .slg 3 ka]), .cl (.agg [.int .i64 tb, .sli .u8 bb, .slg 3 kb])] [] = gDSame rk ta ba ka tb bb kb := by kernel_rfl

abbrev zEqF0 := LC -> LC -> Int -> Int -> OO
abbrev zEqF1 := LC -> Int -> LC -> Int -> Int -> Int -> LC -> Nat -> Int -> LI -> LC -> LC -> Int -> LC -> Nat -> Int -> LI -> LC -> Int -> LI -> LC -> Int -> LI -> LC -> Bool -> Int -> LI -> LC -> Int -> LI -> LC -> OO
noncomputable def qwb (rk : Nat) (again : zEqF0) (k0 : zEqF1) (k1 : zEqF0) (v1 v2 : LC) (v3 v4 : Int) : OO :=
 cond (decide (v4 < v3)) (
 cond (decide ((0 : Int) <= v4)) (
 cond (decide (v4 < ((v2.length : Nat) : Int))) (
 Option.bind (v2[(Int.toNat v4)]?) fun (e1 : CV) =>
 let e2 : CV := (cell1 e1).headD .nili
 let e3 : CV := (cell1 e1).tail.headD .nili
 let e4 : CV := (cell1 e1).tail.tail.headD .nili
 cond (q9m .i64 e2 && (qy3 .u8 e3 && (okSlg 3 e4 && true))) (
 let i5 : Int := qrt e2
 let l6 : LI := qec e3
 let l7 : LC := qyl e4
 cond (decide ((0 : Int) <= v4)) (
 cond (decide (v4 < ((v1.length : Nat) : Int))) (
 Option.bind (v1[(Int.toNat v4)]?) fun (e8 : CV) =>
 let e9 : CV := (cell1 e8).headD .nili
 let e10 : CV := (cell1 e8).tail.headD .nili
 let e11 : CV := (cell1 e8).tail.tail.headD .nili
 cond (q9m .i64 e9 && (qy3 .u8 e10 && (okSlg 3 e11 && true))) (
 let i12 : Int := qrt e9
 let l13 : LI := qec e10
 let l14 : LC := qyl e11
 cond (isNr rk [.int .i64 i5, .sli .u8 l6, .slg 3 l7] && isN [.int .i64 i12, .sli .u8 l13, .slg 3 l14]) (
 let r15 : Bool := qii [.int .i64 i5, .sli .u8 l6, .slg 3 l7] [.int .i64 i12, .sli .u8 l13, .slg 3 l14]
 cond (!r15) (
 k0 v1 v4 v2 v3 v4 v4 v2 (Int.toNat v4) i5 l6 l7 v1 v4 v1 (Int.toNat v4) i12 l13 l14 i5 l6 l7 i12 l13 l14 r15 i5 l6 l7 i12 l13 l14)
 (
 let x16 : Int := IntKind.i64.wrap (v4 + 1)
 again v1 v2 v3 x16)) none) none) none) none) none) none) none)
 (
 k1 v1 v2 v3 v4)
noncomputable def qre (rk : Nat) (k0 : zEqF1) (k1 : zEqF0) : Nat -> LC -> LC -> Int -> Int -> OO
 | 0 => fun _ _ _ _ => none
 | n + 1 => qwb rk (qre rk k0 k1 n) k0 k1
noncomputable def qsj (k : KT) : zEqF1 := fun y1 y2 y3 y4 y5 y6 y7 y8 y9 y10 y11 y12 y13 y14 y15 y16 y17 y18 y19 y20 y21 y22 y23 y24 y25 y26 y27 y28 y29 y30 y31 => k .ret ⟨[(1, qG 3 y1), (2, .cl (.fn (.func 20) [] [])), (6, qB false), (7, qI y2), (8, .ptr 72 0 0), (9, .ptr 73 0 0), (15, qG 3 y3), (16, qI y4), (17, qI y5), (18, qB true), (19, qI y6), (20, .cl (.vp (.slg 3 y7) y8 0)), (21, .cl (.agg [.int .i64 y9, .sli .u8 y10, .slg 3 y11])), (22, qG 3 y12), (23, qI y13), (24, .cl (.vp (.slg 3 y14) y15 0)), (25, .cl (.agg [.int .i64 y16, .sli .u8 y17, .slg 3 y18])), (26, .cl (.fn (.func 20) [] [])), (27, .cl (.agg [.int .i64 y19, .sli .u8 y20, .slg 3 y21])), (28, .cl (.agg [.int .i64 y22, .sli .u8 y23, .slg 3 y24])), (29, qB y25), (30, qB true)], [(72, ⟨.var [qI y26, qS y27, qG 3 y28], false⟩), (73, ⟨.var [qI y29, qS y30, qG 3 y31], false⟩)]⟩
noncomputable def qt5 (k : KT) : zEqF0 := fun y1 y2 y3 y4 => k (.exit 0) ⟨[(1, qG 3 y1), (2, .cl (.fn (.func 20) [] [])), (15, qG 3 y2), (16, qI y3), (17, qI y4), (18, qB false)], []⟩
noncomputable def LEqF_4 (rk : Nat) : St -> (KT) -> OO := fun σ k => match σ with
 | ⟨[(q1, .cl (.slg q2 v1)), (q3, .cl (.fn (.func q4) [] [])), (q5, .cl (.slg q6 v2)), (q7, .cl (.int .i64 v3)), (q8, .cl (.int .i64 v4))], []⟩ => cond (Nat.beq q1 1 && Nat.beq q2 3 && Nat.beq q3 2 && Nat.beq q4 20 && Nat.beq q5 15 && Nat.beq q6 3 && Nat.beq q7 16 && Nat.beq q8 17) (shut (qre rk (qsj k) (qt5 k) FUEL) v1 v2 v3 v4) none
 | _ => none
noncomputable def EEqF (rk : Nat) : Env := {
 orc := fun g => cond (Nat.beq g 20) SDSame (fun _ _ => Tree.fail)
 pre := fun g => cond (Nat.beq g 20) (qd3 (rk)) (fun _ _ => true)
 live := fun r => cond (Nat.beq r 4) ([1, 2, 15, 16, 17]) ([])
 glob := qb9
 nt := 32
 lp := fun r => cond (Nat.beq r 4) (some (LEqF_4 rk)) (none)
}
noncomputable def qx9 : Code := (Cd.fst (Cd.fst (Cd.snd (Cd.fst (Cd.snd (Cd.snd (Tryd.f29.body.getD .skip)))))))
theorem q41 (rk : Nat) (k : KT) (n : Nat) (v1 v2 : LC) (v3 v4 : Int) : qbg (n + 1) (qa1 Tryd.prog (EEqF rk) 40 qx9) (head (EEqF rk) 4) ⟨[(1, qG 3 v1), (2, .cl (.fn (.func 20) [] [])), (15, qG 3 v2), (16, qI v3), (17, qI v4)], []⟩ k = qwb rk (fun v1 v2 v3 v4 => qbg n (qa1 Tryd.prog (EEqF rk) 40 qx9) (head (EEqF rk) 4) ⟨[(1, qG 3 v1), (2, .cl (.fn (.func 20) [] [])), (15, qG 3 v2), (16, qI v3), (17, qI v4)], []⟩ k) (qsj k) (qt5 k) v1 v2 v3 v4 := by kernel_rfl
theorem qza (rk : Nat) (k : KT) : ∀ (n : Nat), ∀ (v1 v2 : LC) (v3 v4 : Int), qbg n (qa1 Tryd.prog (EEqF rk) 40 qx9) (head (EEqF rk) 4) ⟨[(1, qG 3 v1), (2, .cl (.fn (.func 20) [] [])), (15, qG 3 v2), (16, qI v3), (17, qI v4)], []⟩ k = qre rk (qsj k) (qt5 k) n v1 v2 v3 v4
 | 0 => by intros; rfl
 | n + 1 => by
  intros
  rw [q41]
  have ih := qza rk k n
  simp only [qre, ih]
theorem LEqF_4_ok (rk : Nat) : ∀ (σ : St) (k : KT) (r : Out), LEqF_4 rk σ k = some r -> ∃ n, qbg n (qa1 Tryd.prog (EEqF rk) 40 qx9) (head (EEqF rk) 4) σ k = some r := by
 intro σ k r h
 unfold LEqF_4 at h
 split at h
 ·replace h := qaa h
  obtain ⟨hc, h⟩ := h
  simp only [Bool.and_eq_true, qa7, decide_eq_true_eq, Bool.not_eq_true'] at hc
  obtain ⟨⟨⟨⟨⟨⟨⟨rfl, rfl⟩, rfl⟩, rfl⟩, rfl⟩, rfl⟩, rfl⟩, rfl⟩ := hc
  rw [qae] at h
  exact ⟨FUEL, (qza rk k FUEL _ _ _ _ ).trans h⟩
 ·cases h
theorem loopsEqF (rk : Nat) : ∀ c, Tryd.f29.body = some c -> qaq Tryd.prog (EEqF rk) 40 c := by
 intro c hc
 cases hc
 exact ⟨trivial, ⟨qaj _ (by kernel_rfl), ⟨⟨trivial, ⟨qaj _ (by kernel_rfl), qb5 rfl (LEqF_4_ok rk)⟩, qaf rfl⟩, ⟨trivial, trivial, qaf rfl⟩, qaf rfl⟩, qaf rfl⟩, qaf rfl⟩
noncomputable def gEqF (rk : Nat) (a : LC) (b : LC) : OO :=
 cond (!decide (((a.length : Nat) : Int) = ((b.length : Nat) : Int))) (
 some (.ret [.cl (.bool false)] []))
 (
 shut (qre rk
 (fun y1 y2 y3 y4 y5 y6 y7 y8 y9 y10 y11 y12 y13 y14 y15 y16 y17 y18 y19 y20 y21 y22 y23 y24 y25 y26 y27 y28 y29 y30 y31 =>
 some (.ret [.cl (.bool false)] []))
 (fun y32 y33 y34 y35 =>
 some (.ret [.cl (.bool true)] []))
 FUEL) b a ((a.length : Nat) : Int) 0)
theorem gEqF_eq (rk : Nat) (a : LC) (b : LC) : qcc Tryd.prog (EEqF rk) 40 false Tryd.f29 [.cl (.slg 3 a), .cl (.slg 3 b), .cl (.fn (.func 20) [] [])] [] = gEqF rk a b := by kernel_rfl

abbrev qv3 := LI -> LI -> Int -> Int -> OO
abbrev q3h := LI -> LI -> Int -> Int -> Int -> Int -> LI -> Int -> LI -> Nat -> Int -> LI -> Int -> LI -> Nat -> Int -> OO
noncomputable def qkd (again : qv3) (k0 : q3h) (k1 : qv3) (v1 v2 : LI) (v3 v4 : Int) : OO :=
 cond (decide (v4 < v3)) (
 cond (decide ((0 : Int) <= v4)) (
 cond (decide (v4 < ((v1.length : Nat) : Int))) (
 Option.bind (v1[(Int.toNat v4)]?) fun (e1 : Int) =>
 cond (decide ((0 : Int) <= v4)) (
 cond (decide (v4 < ((v2.length : Nat) : Int))) (
 Option.bind (v2[(Int.toNat v4)]?) fun (e2 : Int) =>
 cond (!decide (e1 = e2)) (
 k0 v1 v2 v4 v3 v4 v4 v1 v4 v1 (Int.toNat v4) e1 v2 v4 v2 (Int.toNat v4) e2)
 (
 let x3 : Int := IntKind.i64.wrap (v4 + 1)
 again v1 v2 v3 x3)) none) none) none) none)
 (
 k1 v1 v2 v3 v4)
noncomputable def qez (k0 : q3h) (k1 : qv3) : Nat -> LI -> LI -> Int -> Int -> OO
 | 0 => fun _ _ _ _ => none
 | n + 1 => qkd (qez k0 k1 n) k0 k1
noncomputable def qim (k : KT) : q3h := fun y1 y2 y3 y4 y5 y6 y7 y8 y9 y10 y11 y12 y13 y14 y15 y16 => k .ret ⟨[(0, qS y1), (1, qS y2), (4, qB false), (5, qI y3), (12, qI y4), (13, qI y5), (14, qB true), (15, qI y6), (16, qS y7), (17, qI y8), (18, .cl (.vp (.sli .u8 y9) y10 0)), (19, qU y11), (20, qS y12), (21, qI y13), (22, .cl (.vp (.sli .u8 y14) y15 0)), (23, qU y16), (24, qB true)], []⟩
noncomputable def qit (k : KT) : qv3 := fun y1 y2 y3 y4 => k (.exit 0) ⟨[(0, qS y1), (1, qS y2), (12, qI y3), (13, qI y4), (14, qB false)], []⟩
noncomputable def qxn : St -> (KT) -> OO := fun σ k => match σ with
 | ⟨[(q1, .cl (.sli .u8 v1)), (q2, .cl (.sli .u8 v2)), (q3, .cl (.int .i64 v3)), (q4, .cl (.int .i64 v4))], []⟩ => cond (Nat.beq q1 0 && Nat.beq q2 1 && Nat.beq q3 12 && Nat.beq q4 13) (shut (qez (qim k) (qit k) FUEL) v1 v2 v3 v4) none
 | _ => none
noncomputable def ESEqual : Env := {
 orc := fun _ => fun _ _ => Tree.fail
 pre := fun _ => fun _ _ => true
 live := fun r => cond (Nat.beq r 4) ([0, 1, 12, 13]) ([])
 glob := qb9
 nt := 26
 lp := fun r => cond (Nat.beq r 4) (some (qxn)) (none)
}
noncomputable def qj2 : Code := (Cd.fst (Cd.fst (Cd.snd (Cd.fst (Cd.snd (Cd.snd (Tryd.f28.body.getD .skip)))))))
theorem qub (k : KT) (n : Nat) (v1 v2 : LI) (v3 v4 : Int) : qbg (n + 1) (qa1 Tryd.prog (ESEqual) 40 qj2) (head (ESEqual) 4) ⟨[(0, qS v1), (1, qS v2), (12, qI v3), (13, qI v4)], []⟩ k = qkd (fun v1 v2 v3 v4 => qbg n (qa1 Tryd.prog (ESEqual) 40 qj2) (head (ESEqual) 4) ⟨[(0, qS v1), (1, qS v2), (12, qI v3), (13, qI v4)], []⟩ k) (qim k) (qit k) v1 v2 v3 v4 := by kernel_rfl
theorem qo9 (k : KT) : ∀ (n : Nat), ∀ (v1 v2 : LI) (v3 v4 : Int), qbg n (qa1 Tryd.prog (ESEqual) 40 qj2) (head (ESEqual) 4) ⟨[(0, qS v1), (1, qS v2), (12, qI v3), (13, qI v4)], []⟩ k = qez (qim k) (qit k) n v1 v2 v3 v4
 | 0 => by intros; rfl
 | n + 1 => by
  intros
  rw [qub]
  have ih := qo9 k n
  simp only [qez, ih]
theorem q3q : ∀ (σ : St) (k : KT) (r : Out), qxn σ k = some r -> ∃ n, qbg n (qa1 Tryd.prog (ESEqual) 40 qj2) (head (ESEqual) 4) σ k = some r := by
 intro σ k r h
 unfold qxn at h
 split at h
 ·replace h := qaa h
  obtain ⟨hc, h⟩ := h
  simp only [Bool.and_eq_true, qa7, decide_eq_true_eq, Bool.not_eq_true'] at hc
  obtain ⟨⟨⟨rfl, rfl⟩, rfl⟩, rfl⟩ := hc
  rw [qae] at h
  exact ⟨FUEL, (qo9 k FUEL _ _ _ _ ).trans h⟩
 ·cases h
theorem q8w : ∀ c, Tryd.f28.body = some c -> qaq Tryd.prog (ESEqual) 40 c := by
 intro c hc
 cases hc
 exact ⟨trivial, ⟨qaj _ (by kernel_rfl), ⟨⟨trivial, ⟨qaj _ (by kernel_rfl), qb5 rfl (q3q)⟩, qaf rfl⟩, ⟨trivial, trivial, qaf rfl⟩, qaf rfl⟩, qaf rfl⟩, qaf rfl⟩
noncomputable def xba3 (a : LI) (b : LI) : OO :=
 cond (!decide (((a.length : Nat) : Int) = ((b.length : Nat) : Int))) (
 some (.ret [.cl (.bool false)] []))
 (
 shut (qez
 (fun y1 y2 y3 y4 y5 y6 y7 y8 y9 y10 y11 y12 y13 y14 y15 y16 =>
 some (.ret [.cl (.bool false)] []))
 (fun y17 y18 y19 y20 =>
 some (.ret [.cl (.bool true)] []))
 FUEL) a b ((a.length : Nat) : Int) 0)
theorem gSEqual_eq (a : LI) (b : LI) : qcc Tryd.prog (ESEqual) 40 false Tryd.f28 [.cl (.sli .u8 a), .cl (.sli .u8 b)] [] = xba3 a b := by kernel_rfl

abbrev q3b := Int -> Int -> Int -> LC -> Int -> Bool -> Int -> Bool -> Int -> LI -> LC -> OO
abbrev q1o := Int -> Int -> Int -> LC -> Int -> Bool -> Int -> LI -> LC -> OO
noncomputable def qky (rk : Nat) (again : Int -> Int -> Int -> LI -> LC -> OO) (k0 : q3b) (k1 : q1o) (v1 v2 v3 : Int) (v4 : LI) (v5 : LC) : OO :=
 cond (decide (v2 < ((v5.length : Nat) : Int))) (
 cond (decide ((0 : Int) <= v1)) (
 cond (decide ((0 : Int) <= v2)) (
 cond (decide (v2 < ((v5.length : Nat) : Int))) (
 Option.bind (v5[(Int.toNat v2)]?) fun (e4 : CV) =>
 let e5 : CV := (cell1 e4).headD .nili
 let e6 : CV := (cell1 e4).tail.headD .nili
 let e7 : CV := (cell1 e4).tail.tail.headD .nili
 cond (q9m .i64 e5 && (qy3 .u8 e6 && (okSlg 3 e7 && true))) (
 let i8 : Int := qrt e5
 let l9 : LI := qec e6
 let l10 : LC := qyl e7
 cond (isTr rk [.int .i64 i8, .sli .u8 l9, .slg 3 l10] && qm3 v1) (
 let r11 : Int := qie [.int .i64 i8, .sli .u8 l9, .slg 3 l10] v1
 let x12 : Int := IntKind.i64.wrap (v2 + 1)
 again r11 x12 v3 v4 v5) none) none) none) none)
 (
 k0 v1 v2 v2 v5 ((v5.length : Nat) : Int) (decide (v2 < ((v5.length : Nat) : Int))) v1 (decide ((0 : Int) <= v1)) v3 v4 v5))
 (
 k1 v1 v2 v2 v5 ((v5.length : Nat) : Int) (decide (v2 < ((v5.length : Nat) : Int))) v3 v4 v5)
noncomputable def qex (rk : Nat) (k0 : q3b) (k1 : q1o) : Nat -> Int -> Int -> Int -> LI -> LC -> OO
 | 0 => fun _ _ _ _ _ => none
 | n + 1 => qky rk (qex rk k0 k1 n) k0 k1
noncomputable def qji (k : KT) : q3b := fun y1 y2 y3 y4 y5 y6 y7 y8 y9 y10 y11 => k (.exit 0) ⟨[(1, qI y1), (2, .ptr 66 0 0), (5, qI y2), (13, qI y3), (14, .ptr 66 0 2), (15, qG 3 y4), (16, qI y5), (17, qB y6), (18, qB true), (19, qI y7), (20, qB y8), (21, qB false)], [(66, ⟨.var [qI y9, qS y10, qG 3 y11], false⟩)]⟩
noncomputable def qix (k : KT) : q1o := fun y1 y2 y3 y4 y5 y6 y7 y8 y9 => k (.exit 0) ⟨[(1, qI y1), (2, .ptr 66 0 0), (5, qI y2), (13, qI y3), (14, .ptr 66 0 2), (15, qG 3 y4), (16, qI y5), (17, qB y6), (18, qB false), (19, .tup []), (20, .tup []), (21, qB false)], [(66, ⟨.var [qI y7, qS y8, qG 3 y9], false⟩)]⟩
noncomputable def qxa (rk : Nat) : St -> (KT) -> OO := fun σ k => match σ with
 | ⟨[(q1, .cl (.int .i64 v1)), (q2, .ptr q3 q4 q5), (q6, .cl (.int .i64 v2))], [(q7, ⟨.var [.cl (.int .i64 v3), .cl (.sli .u8 v4), .cl (.slg q8 v5)], false⟩)]⟩ => cond (Nat.beq q1 1 && Nat.beq q2 2 && Nat.beq q3 66 && Nat.beq q4 0 && Nat.beq q5 0 && Nat.beq q6 5 && Nat.beq q7 66 && Nat.beq q8 3) (shut (qex rk (qji k) (qix k) FUEL) v1 v2 v3 v4 v5) none
 | _ => none
noncomputable def ERSmall (rk : Nat) : Env := {
 orc := fun g => cond (Nat.beq g 12) SRSmall (fun _ _ => Tree.fail)
 pre := fun g => cond (Nat.beq g 12) (qgd (rk)) (fun _ _ => true)
 live := fun r => cond (Nat.beq r 3) ([1, 2, 5]) ([])
 glob := qb9
 nt := 32
 lp := fun r => cond (Nat.beq r 3) (some (qxa rk)) (none)
}
noncomputable def qlb : Code := (Cd.fst (Cd.fst (Cd.snd (Cd.fst (Cd.snd (Cd.snd (Tryd.f12.body.getD .skip)))))))
theorem quf (rk : Nat) (k : KT) (n : Nat) (v1 v2 v3 : Int) (v4 : LI) (v5 : LC) : qbg (n + 1) (qa1 Tryd.prog (ERSmall rk) 40 qlb) (head (ERSmall rk) 3) ⟨[(1, qI v1), (2, .ptr 66 0 0), (5, qI v2)], [(66, ⟨.var [qI v3, qS v4, qG 3 v5], false⟩)]⟩ k = qky rk (fun v1 v2 v3 v4 v5 => qbg n (qa1 Tryd.prog (ERSmall rk) 40 qlb) (head (ERSmall rk) 3) ⟨[(1, qI v1), (2, .ptr 66 0 0), (5, qI v2)], [(66, ⟨.var [qI v3, qS v4, qG 3 v5], false⟩)]⟩ k) (qji k) (qix k) v1 v2 v3 v4 v5 := by kernel_rfl
theorem qpw (rk : Nat) (k : KT) : ∀ (n : Nat), ∀ (v1 v2 v3 : Int) (v4 : LI) (v5 : LC), qbg n (qa1 Tryd.prog (ERSmall rk) 40 qlb) (head (ERSmall rk) 3) ⟨[(1, qI v1), (2, .ptr 66 0 0), (5, qI v2)], [(66, ⟨.var [qI v3, qS v4, qG 3 v5], false⟩)]⟩ k = qex rk (qji k) (qix k) n v1 v2 v3 v4 v5
 | 0 => by intros; rfl
 | n + 1 => by
  intros
  rw [quf]
  have ih := qpw rk k n
  simp only [qex, ih]
theorem q2p (rk : Nat) : ∀ (σ : St) (k : KT) (r : Out), qxa rk σ k = some r -> ∃ n, qbg n (qa1 Tryd.prog (ERSmall rk) 40 qlb) (head (ERSmall rk) 3) σ k = some r := by
 intro σ k r h
 unfold qxa at h
 split at h
 ·replace h := qaa h
  obtain ⟨hc, h⟩ := h
  simp only [Bool.and_eq_true, qa7, decide_eq_true_eq, Bool.not_eq_true'] at hc
  obtain ⟨⟨⟨⟨⟨⟨⟨rfl, rfl⟩, rfl⟩, rfl⟩, rfl⟩, rfl⟩, rfl⟩, rfl⟩ := hc
  rw [qae] at h
  exact ⟨FUEL, (qpw rk k FUEL _ _ _ _ _ ).trans h⟩
 ·cases h
theorem q9b (rk : Nat) : ∀ c, Tryd.f12.body = some c -> qaq Tryd.prog (ERSmall rk) 40 c := by
 intro c hc
 cases hc
 exact ⟨trivial, ⟨trivial, ⟨⟨trivial, ⟨qaj _ (by kernel_rfl), qb5 rfl (q2p rk)⟩, qaf rfl⟩, ⟨trivial, trivial, qaf rfl⟩, qaf rfl⟩, qaf rfl⟩, qaf rfl⟩
noncomputable def gRSmall (rk : Nat) (ta : Int) (ba : LI) (ka : LC) (left : Int) : OO :=
 let x1 : Int := IntKind.i64.wrap (left - 1)
 let x2 : Int := cond (decide ((1048576 : Int) < ((ba.length : Nat) : Int))) 1048576 ((ba.length : Nat) : Int)
 let x3 : Int := IntKind.i64.wrap (x1 - x2)
 shut (qex rk
 (fun y4 y5 y6 y7 y8 y9 y10 y11 y12 y13 y14 =>
 some (.ret [.cl (.int .i64 y4)] []))
 (fun y15 y16 y17 y18 y19 y20 y21 y22 y23 =>
 some (.ret [.cl (.int .i64 y15)] []))
 FUEL) x3 0 ta ba ka
theorem xbao (rk : Nat) (ta : Int) (ba : LI) (ka : LC) (left : Int) : qcc Tryd.prog (ERSmall rk) 40 false Tryd.f12 [.cl (.agg [.int .i64 ta, .sli .u8 ba, .slg 3 ka]), .cl (.int .i64 left)] [] = gRSmall rk ta ba ka left := by kernel_rfl

abbrev q49 := Int -> Int -> LC -> Int -> Int -> OO
abbrev zDSize1 := Int -> Int -> Int -> LC -> Int -> Int -> LC -> Nat -> Int -> LI -> LC -> Int -> LI -> LC -> Int -> Int -> Int -> Int -> Int -> Int -> Int -> Bool -> Int -> LI -> LC -> OO
abbrev zDSize2 := Int -> Int -> Int -> LC -> Int -> Int -> LC -> Nat -> Int -> LI -> LC -> Int -> LI -> LC -> Int -> Int -> Int -> Int -> Int -> Int -> Int -> Bool -> Int -> Bool -> Int -> LI -> LC -> OO
noncomputable def qna (rk : Nat) (again : q49) (k0 : zDSize1) (k1 : zDSize2) (k2 : q49) (v1 v2 : Int) (v3 : LC) (v4 v5 : Int) : OO :=
 cond (decide (v5 < v4)) (
 cond (decide ((0 : Int) <= v5)) (
 cond (decide (v5 < ((v3.length : Nat) : Int))) (
 Option.bind (v3[(Int.toNat v5)]?) fun (e3 : CV) =>
 let e4 : CV := (cell1 e3).headD .nili
 let e5 : CV := (cell1 e3).tail.headD .nili
 let e6 : CV := (cell1 e3).tail.tail.headD .nili
 cond (q9m .i64 e4 && (qy3 .u8 e5 && (okSlg 3 e6 && true))) (
 let i7 : Int := qrt e4
 let l8 : LI := qec e5
 let l9 : LC := qyl e6
 let x10 : Int := IntKind.i64.wrap (v1 - 1)
 cond (isSr rk [.int .i64 i7, .sli .u8 l8, .slg 3 l9] && qcb x10) (
 let r11 : Int := q1s [.int .i64 i7, .sli .u8 l8, .slg 3 l9] x10
 let x12 : Int := IntKind.i64.wrap (v2 + r11)
 cond (decide (r11 < 0)) (
 k0 v1 x12 r11 v3 v4 v5 v3 (Int.toNat v5) i7 l8 l9 i7 l8 l9 v1 x10 r11 v2 r11 x12 r11 (decide (r11 < 0)) i7 l8 l9)
 (
 cond (decide ((1048576 : Int) < x12)) (
 k1 v1 x12 r11 v3 v4 v5 v3 (Int.toNat v5) i7 l8 l9 i7 l8 l9 v1 x10 r11 v2 r11 x12 r11 (decide (r11 < 0)) x12 (decide ((1048576 : Int) < x12)) i7 l8 l9)
 (
 let x13 : Int := IntKind.i64.wrap (v5 + 1)
 again v1 x12 v3 v4 x13))) none) none) none) none)
 (
 k2 v1 v2 v3 v4 v5)
noncomputable def qg3 (rk : Nat) (k0 : zDSize1) (k1 : zDSize2) (k2 : q49) : Nat -> Int -> Int -> LC -> Int -> Int -> OO
 | 0 => fun _ _ _ _ _ => none
 | n + 1 => qna rk (qg3 rk k0 k1 k2 n) k0 k1 k2
noncomputable def ql3 (k : KT) : zDSize1 := fun y1 y2 y3 y4 y5 y6 y7 y8 y9 y10 y11 y12 y13 y14 y15 y16 y17 y18 y19 y20 y21 y22 y23 y24 y25 => k .ret ⟨[(1, qI y1), (4, .cl (.int .i64 (-1))), (5, qI y2), (7, .ptr 71 0 0), (8, qI y3), (26, qG 3 y4), (27, qI y5), (28, qI y6), (29, qB true), (30, .cl (.vp (.slg 3 y7) y8 0)), (31, .cl (.agg [.int .i64 y9, .sli .u8 y10, .slg 3 y11])), (32, .cl (.agg [.int .i64 y12, .sli .u8 y13, .slg 3 y14])), (33, qI y15), (34, qI y16), (35, qI y17), (36, qI y18), (37, qI y19), (38, qI y20), (39, qI y21), (40, qB y22), (41, qB true), (42, .tup []), (43, .tup []), (44, qB true)], [(71, ⟨.var [qI y23, qS y24, qG 3 y25], false⟩)]⟩
noncomputable def ql7 (k : KT) : zDSize2 := fun y1 y2 y3 y4 y5 y6 y7 y8 y9 y10 y11 y12 y13 y14 y15 y16 y17 y18 y19 y20 y21 y22 y23 y24 y25 y26 y27 => k .ret ⟨[(1, qI y1), (4, .cl (.int .i64 (-1))), (5, qI y2), (7, .ptr 71 0 0), (8, qI y3), (26, qG 3 y4), (27, qI y5), (28, qI y6), (29, qB true), (30, .cl (.vp (.slg 3 y7) y8 0)), (31, .cl (.agg [.int .i64 y9, .sli .u8 y10, .slg 3 y11])), (32, .cl (.agg [.int .i64 y12, .sli .u8 y13, .slg 3 y14])), (33, qI y15), (34, qI y16), (35, qI y17), (36, qI y18), (37, qI y19), (38, qI y20), (39, qI y21), (40, qB y22), (41, qB false), (42, qI y23), (43, qB y24), (44, qB true)], [(71, ⟨.var [qI y25, qS y26, qG 3 y27], false⟩)]⟩
noncomputable def qmg (k : KT) : q49 := fun y1 y2 y3 y4 y5 => k (.exit 0) ⟨[(1, qI y1), (5, qI y2), (26, qG 3 y3), (27, qI y4), (28, qI y5), (29, qB false)], []⟩
noncomputable def q2n (rk : Nat) : St -> (KT) -> OO := fun σ k => match σ with
 | ⟨[(q1, .cl (.int .i64 v1)), (q2, .cl (.int .i64 v2)), (q3, .cl (.slg q4 v3)), (q5, .cl (.int .i64 v4)), (q6, .cl (.int .i64 v5))], []⟩ => cond (Nat.beq q1 1 && Nat.beq q2 5 && Nat.beq q3 26 && Nat.beq q4 3 && Nat.beq q5 27 && Nat.beq q6 28) (shut (qg3 rk (ql3 k) (ql7 k) (qmg k) FUEL) v1 v2 v3 v4 v5) none
 | _ => none
noncomputable def EDSize (rk : Nat) : Env := {
 orc := fun g => cond (Nat.beq g 18) SDBoxed (cond (Nat.beq g 25) SDSize (cond (Nat.beq g 31) SDKnown (cond (Nat.beq g 34) SDFits (cond (Nat.beq g 40) qng (fun _ _ => Tree.fail)))))
 pre := fun g => cond (Nat.beq g 18) qke (cond (Nat.beq g 25) (qj3 (rk)) (cond (Nat.beq g 31) qw7 (cond (Nat.beq g 34) q3l (cond (Nat.beq g 40) qla (fun _ _ => true)))))
 live := fun r => cond (Nat.beq r 8) ([1, 5, 26, 27, 28]) ([])
 glob := qb9
 nt := 67
 lp := fun r => cond (Nat.beq r 8) (some (q2n rk)) (none)
}
noncomputable def qnc : Code := (Cd.fst (Cd.fst (Cd.snd (Cd.snd (Cd.fst (Cd.snd (Cd.fst (Cd.snd (Cd.snd (Cd.snd (Tryd.f25.body.getD .skip)))))))))))
theorem qvv (rk : Nat) (k : KT) (n : Nat) (v1 v2 : Int) (v3 : LC) (v4 v5 : Int) : qbg (n + 1) (qa1 Tryd.prog (EDSize rk) 40 qnc) (head (EDSize rk) 8) ⟨[(1, qI v1), (5, qI v2), (26, qG 3 v3), (27, qI v4), (28, qI v5)], []⟩ k = qna rk (fun v1 v2 v3 v4 v5 => qbg n (qa1 Tryd.prog (EDSize rk) 40 qnc) (head (EDSize rk) 8) ⟨[(1, qI v1), (5, qI v2), (26, qG 3 v3), (27, qI v4), (28, qI v5)], []⟩ k) (ql3 k) (ql7 k) (qmg k) v1 v2 v3 v4 v5 := by kernel_rfl
theorem qtv (rk : Nat) (k : KT) : ∀ (n : Nat), ∀ (v1 v2 : Int) (v3 : LC) (v4 v5 : Int), qbg n (qa1 Tryd.prog (EDSize rk) 40 qnc) (head (EDSize rk) 8) ⟨[(1, qI v1), (5, qI v2), (26, qG 3 v3), (27, qI v4), (28, qI v5)], []⟩ k = qg3 rk (ql3 k) (ql7 k) (qmg k) n v1 v2 v3 v4 v5
 | 0 => by intros; rfl
 | n + 1 => by
  intros
  rw [qvv]
  have ih := qtv rk k n
  simp only [qg3, ih]
theorem q9g (rk : Nat) : ∀ (σ : St) (k : KT) (r : Out), q2n rk σ k = some r -> ∃ n, qbg n (qa1 Tryd.prog (EDSize rk) 40 qnc) (head (EDSize rk) 8) σ k = some r := by
 intro σ k r h
 unfold q2n at h
 split at h
 ·replace h := qaa h
  obtain ⟨hc, h⟩ := h
  simp only [Bool.and_eq_true, qa7, decide_eq_true_eq, Bool.not_eq_true'] at hc
  obtain ⟨⟨⟨⟨⟨rfl, rfl⟩, rfl⟩, rfl⟩, rfl⟩, rfl⟩ := hc
  rw [qae] at h
  exact ⟨FUEL, (qtv rk k FUEL _ _ _ _ _ ).trans h⟩
 ·cases h
theorem xbay (rk : Nat) : ∀ c, Tryd.f25.body = some c -> qaq Tryd.prog (EDSize rk) 40 c := by
 intro c hc
 cases hc
 exact ⟨trivial, ⟨qaj _ (by kernel_rfl), ⟨trivial, ⟨⟨trivial, ⟨⟨qaj _ (by kernel_rfl), ⟨trivial, ⟨qaj _ (by kernel_rfl), qb5 rfl (q9g rk)⟩, qaf rfl⟩, qaf rfl⟩, qaj _ (by kernel_rfl), qaf rfl⟩, qaf rfl⟩, ⟨trivial, trivial, qaf rfl⟩, qaf rfl⟩, qaf rfl⟩, qaf rfl⟩, qaf rfl⟩
noncomputable def gDSize (rk : Nat) (ta : Int) (ba : LI) (ka : LC) (deep : Int) : OO :=
 cond (decide (deep = 0)) (
 some (.ret [.cl (.int .i64 (-1))] []))
 (
 let r1 : Bool := qcv ta
 cond (!r1) (
 some (.ret [.cl (.int .i64 (-1))] []))
 (
 let r2 : Bool := qbe ta
 cond (r2) (
 cond (decide ((0 : Int) < ((ba.length : Nat) : Int))) (
 some (.ret [.cl (.int .i64 (-1))] []))
 (
 shut (qg3 rk
 (fun y3 y4 y5 y6 y7 y8 y9 y10 y11 y12 y13 y14 y15 y16 y17 y18 y19 y20 y21 y22 y23 y24 y25 y26 y27 =>
 some (.ret [.cl (.int .i64 (-1))] []))
 (fun y28 y29 y30 y31 y32 y33 y34 y35 y36 y37 y38 y39 y40 y41 y42 y43 y44 y45 y46 y47 y48 y49 y50 y51 y52 y53 y54 =>
 some (.ret [.cl (.int .i64 (-1))] []))
 (fun y55 y56 y57 y58 y59 =>
 let r60 : Int := qbr y56
 let x61 : Int := IntKind.i64.wrap ((1 : Int) + r60)
 let x62 : Int := IntKind.i64.wrap (x61 + y56)
 some (.ret [.cl (.int .i64 x62)] []))
 FUEL) deep ((ba.length : Nat) : Int) ka ((ka.length : Nat) : Int) 0))
 (
 cond (decide ((0 : Int) < ((ka.length : Nat) : Int))) (
 some (.ret [.cl (.int .i64 (-1))] []))
 (
 cond (decide ((1048576 : Int) < ((ba.length : Nat) : Int))) (
 some (.ret [.cl (.int .i64 (-1))] []))
 (
 cond (qad ba) (
 let r63 : Bool := qc3 ta ba
 cond (!r63) (
 some (.ret [.cl (.int .i64 (-1))] []))
 (
 let r64 : Int := qbr ((ba.length : Nat) : Int)
 let x65 : Int := IntKind.i64.wrap ((1 : Int) + r64)
 let x66 : Int := IntKind.i64.wrap (x65 + ((ba.length : Nat) : Int))
 some (.ret [.cl (.int .i64 x66)] []))) none)))))
theorem gDSize_eq (rk : Nat) (ta : Int) (ba : LI) (ka : LC) (deep : Int) : qcc Tryd.prog (EDSize rk) 40 false Tryd.f25 [.cl (.agg [.int .i64 ta, .sli .u8 ba, .slg 3 ka]), .cl (.int .i64 deep)] [] = gDSize rk ta ba ka deep := by kernel_rfl

abbrev zDPut0 := Nat -> Int -> Int -> Int -> LI -> OO
noncomputable def qkq (again : Nat -> Int -> Int -> LI -> OO) (k0 : zDPut0) (v1 : Nat) (v2 v3 : Int) (v4 : LI) : OO :=
 cond (decide ((0 : Int) <= v3)) (
 let x8 : Int := IntKind.i64.wrap ((8 : Int) * v3)
 cond (decide (x8 < 0)) none (
 let x9 : Int := Int.fdiv v2 (2 ^ (min x8.toNat 64))
 let x10 : Int := IntKind.u8.wrap x9
 let l11 : LI := v4 ++ [x10]
 cond (decide (((l11.length : Nat) : Int) * 1 <= LIM)) (
 cond (decide (((l11.length : Nat) : Int) <= LIM)) (
 let x12 : Int := IntKind.i64.wrap (v3 - 1)
 again l11.length v2 x12 l11) none) none))
 (
 k0 v1 v2 v3 v3 v4)
noncomputable def qgv (k0 : zDPut0) : Nat -> Nat -> Int -> Int -> LI -> OO
 | 0 => fun _ _ _ _ => none
 | n + 1 => qkq (qgv k0 n) k0
noncomputable def qo1 (k : KT) : zDPut0 := fun y1 y2 y3 y4 y5 => k (.exit 0) ⟨[(0, .ref 93 0 y1 true 1), (2, qI y2), (8, qI y3), (32, qI y4), (33, qB false)], [(93, ⟨.ints .u8 y5, false⟩)]⟩
noncomputable def LDPut_7 : St -> (KT) -> OO := fun σ k => match σ with
 | ⟨[(q1, .ref q2 q3 v1 true q4), (q5, .cl (.int .i64 v2)), (q6, .cl (.int .i64 v3))], [(q7, ⟨.ints .u8 v4, false⟩)]⟩ => cond (Nat.beq q1 0 && Nat.beq q2 93 && Nat.beq q3 0 && Nat.beq q4 1 && Nat.beq q5 2 && Nat.beq q6 8 && Nat.beq q7 93) (shut (qgv (qo1 k) FUEL) v1 v2 v3 v4) none
 | _ => none
noncomputable def EDPut : Env := {
 orc := fun g => cond (Nat.beq g 40) qng (fun _ _ => Tree.fail)
 pre := fun g => cond (Nat.beq g 40) qla (fun _ _ => true)
 live := fun r => cond (Nat.beq r 7) ([0, 2, 8]) ([])
 ren := fun r => cond (Nat.beq r 7) ([(107, 93)]) ([])
 glob := qb9
 nt := 45
 lp := fun r => cond (Nat.beq r 7) (some (LDPut_7)) (none)
}
noncomputable def qq4 : Code := (Cd.fst (Cd.fst (Cd.snd (Cd.fst (Cd.snd (Cd.snd (Cd.snd (Cd.snd (Cd.snd (Tryd.f41.body.getD .skip))))))))))
theorem qyw (k : KT) (n : Nat) (v1 : Nat) (v2 v3 : Int) (v4 : LI) : qbg (n + 1) (qa1 Tryd.prog (EDPut) 40 qq4) (head (EDPut) 7) ⟨[(0, .ref 93 0 v1 true 1), (2, qI v2), (8, qI v3)], [(93, ⟨.ints .u8 v4, false⟩)]⟩ k = qkq (fun v1 v2 v3 v4 => qbg n (qa1 Tryd.prog (EDPut) 40 qq4) (head (EDPut) 7) ⟨[(0, .ref 93 0 v1 true 1), (2, qI v2), (8, qI v3)], [(93, ⟨.ints .u8 v4, false⟩)]⟩ k) (qo1 k) v1 v2 v3 v4 := by kernel_rfl
theorem qu6 (k : KT) : ∀ (n : Nat), ∀ (v1 : Nat) (v2 v3 : Int) (v4 : LI), qbg n (qa1 Tryd.prog (EDPut) 40 qq4) (head (EDPut) 7) ⟨[(0, .ref 93 0 v1 true 1), (2, qI v2), (8, qI v3)], [(93, ⟨.ints .u8 v4, false⟩)]⟩ k = qgv (qo1 k) n v1 v2 v3 v4
 | 0 => by intros; rfl
 | n + 1 => by
  intros
  rw [qyw]
  have ih := qu6 k n
  simp only [qgv, ih]
theorem xbax : ∀ (σ : St) (k : KT) (r : Out), LDPut_7 σ k = some r -> ∃ n, qbg n (qa1 Tryd.prog (EDPut) 40 qq4) (head (EDPut) 7) σ k = some r := by
 intro σ k r h
 unfold LDPut_7 at h
 split at h
 ·replace h := qaa h
  obtain ⟨hc, h⟩ := h
  simp only [Bool.and_eq_true, qa7, decide_eq_true_eq, Bool.not_eq_true'] at hc
  obtain ⟨⟨⟨⟨⟨⟨rfl, rfl⟩, rfl⟩, rfl⟩, rfl⟩, rfl⟩, rfl⟩ := hc
  rw [qae] at h
  exact ⟨FUEL, (qu6 k FUEL _ _ _ _ ).trans h⟩
 ·cases h
theorem loopsDPut : ∀ c, Tryd.f41.body = some c -> qaq Tryd.prog (EDPut) 40 c := by
 intro c hc
 cases hc
 exact ⟨trivial, ⟨trivial, ⟨trivial, ⟨qaj _ (by kernel_rfl), ⟨trivial, ⟨⟨trivial, ⟨qaj _ (by kernel_rfl), qb5 rfl (xbax)⟩, qaf rfl⟩, ⟨trivial, trivial, qaf rfl⟩, qaf rfl⟩, qaf rfl⟩, qaf rfl⟩, qaf rfl⟩, qaf rfl⟩, qaf rfl⟩
noncomputable def gDPut (tag : Int) (n : Int) : OO :=
 let x1 : Int := IntKind.u8.wrap tag
 let r2 : Int := qbr n
 let x3 : Int := IntKind.i64.wrap (r2 - 1)
 cond (decide (x3 = 0)) (
 let x4 : Int := IntKind.u8.wrap n
 some (.ret [.ref 0 0 2 true 1] [some ⟨.ints .u8 [x1, x4], false⟩]))
 (
 let x5 : Int := IntKind.i64.wrap ((128 : Int) + x3)
 let x6 : Int := IntKind.u8.wrap x5
 let x7 : Int := IntKind.i64.wrap (x3 - 1)
 shut (qgv
 (fun y8 y9 y10 y11 y12 =>
 some (.ret [.ref 0 0 y8 true 1] [some ⟨.ints .u8 y12, false⟩]))
 FUEL) 2 n x7 [x1, x6])
theorem gDPut_eq (tag : Int) (n : Int) : qcc Tryd.prog (EDPut) 40 true Tryd.f41 [.nils, .cl (.int .i64 tag), .cl (.int .i64 n)] [] = gDPut tag n := by kernel_rfl

noncomputable def ERHead : Env := {
 orc := fun _ => fun _ _ => Tree.fail
 pre := fun _ => fun _ _ => true
 glob := qb9
 nt := 50
}
theorem loopsRHead : ∀ c, Tryd.f44.body = some c -> qaq Tryd.prog (ERHead) 40 c := by
 intro c hc
 cases hc
 exact qaj _ (by kernel_rfl)
noncomputable def gRHead (tag : Int) (n : Int) : OO :=
 let x1 : Int := IntKind.u8.wrap tag
 cond (decide (n < 128)) (
 let x2 : Int := IntKind.u8.wrap n
 some (.ret [.ref 0 0 2 true 1] [some ⟨.ints .u8 [x1, x2], false⟩]))
 (
 cond (decide (n < 256)) (
 let x3 : Int := IntKind.u8.wrap n
 some (.ret [.ref 0 0 3 true 1] [some ⟨.ints .u8 [x1, 129, x3], false⟩]))
 (
 cond (decide (n < 65536)) (
 let x4 : Int := IntKind.i64.wrap (Int.tdiv n 256)
 let x5 : Int := IntKind.u8.wrap x4
 let x6 : Int := Int.tmod n 256
 let x7 : Int := IntKind.u8.wrap x6
 some (.ret [.ref 0 0 4 true 1] [some ⟨.ints .u8 [x1, 130, x5, x7], false⟩]))
 (
 let x8 : Int := IntKind.i64.wrap (Int.tdiv n 65536)
 let x9 : Int := IntKind.u8.wrap x8
 let x10 : Int := IntKind.i64.wrap (Int.tdiv n 256)
 let x11 : Int := Int.tmod x10 256
 let x12 : Int := IntKind.u8.wrap x11
 let x13 : Int := Int.tmod n 256
 let x14 : Int := IntKind.u8.wrap x13
 some (.ret [.ref 0 0 5 true 1] [some ⟨.ints .u8 [x1, 131, x9, x12, x14], false⟩]))))
theorem gRHead_eq (tag : Int) (n : Int) : qcc Tryd.prog (ERHead) 40 true Tryd.f44 [.cl (.int .i64 tag), .cl (.int .i64 n)] [] = gRHead tag n := by kernel_rfl

abbrev q4e := LC -> Nat -> Int -> Int -> LC -> Int -> LI -> OO
noncomputable def qk3 (again : LC -> Nat -> Int -> LI -> OO) (k0 : q4e) (v1 : LC) (v2 : Nat) (v3 : Int) (v4 : LI) : OO :=
 cond (decide (v3 < ((v1.length : Nat) : Int))) (
 cond (decide ((0 : Int) <= v3)) (
 cond (decide (v3 < ((v1.length : Nat) : Int))) (
 Option.bind (v1[(Int.toNat v3)]?) fun (e1 : CV) =>
 let e2 : CV := (cell1 e1).getD 0 .nili
 cond (qy3 .u8 e2) (
 let l3 : LI := qec e2
 let l4 : LI := v4 ++ l3
 cond (decide (((l4.length : Nat) : Int) * 1 <= LIM)) (
 cond (decide (((l4.length : Nat) : Int) <= LIM)) (
 let x5 : Int := IntKind.i64.wrap (v3 + 1)
 again v1 l4.length x5 l4) none) none) none) none) none)
 (
 k0 v1 v2 v3 v3 v1 ((v1.length : Nat) : Int) v4)
noncomputable def qe4 (k0 : q4e) : Nat -> LC -> Nat -> Int -> LI -> OO
 | 0 => fun _ _ _ _ => none
 | n + 1 => qk3 (qe4 k0 n) k0
noncomputable def qi1 (k : KT) : q4e := fun y1 y2 y3 y4 y5 y6 y7 => k (.exit 0) ⟨[(0, qG 1 y1), (3, .ref 67 0 y2 true 1), (4, qI y3), (5, qI y4), (6, qG 1 y5), (7, qI y6), (8, qB false)], [(67, ⟨.ints .u8 y7, false⟩)]⟩
noncomputable def qyj : St -> (KT) -> OO := fun σ k => match σ with
 | ⟨[(q1, .cl (.slg q2 v1)), (q3, .ref q4 q5 v2 true q6), (q7, .cl (.int .i64 v3))], [(q8, ⟨.ints .u8 v4, false⟩)]⟩ => cond (Nat.beq q1 0 && Nat.beq q2 1 && Nat.beq q3 3 && Nat.beq q4 67 && Nat.beq q5 0 && Nat.beq q6 1 && Nat.beq q7 4 && Nat.beq q8 67) (shut (qe4 (qi1 k) FUEL) v1 v2 v3 v4) none
 | _ => none
noncomputable def ER1Join : Env := {
 orc := fun _ => fun _ _ => Tree.fail
 pre := fun _ => fun _ _ => true
 live := fun r => cond (Nat.beq r 3) ([0, 3, 4]) ([])
 ren := fun r => cond (Nat.beq r 3) ([(80, 67)]) ([])
 glob := qb9
 nt := 18
 lp := fun r => cond (Nat.beq r 3) (some (qyj)) (none)
}
noncomputable def qj8 : Code := (Cd.fst (Cd.fst (Cd.snd (Cd.fst (Cd.snd (Cd.snd (Tryd.f45.body.getD .skip)))))))
theorem qui (k : KT) (n : Nat) (v1 : LC) (v2 : Nat) (v3 : Int) (v4 : LI) : qbg (n + 1) (qa1 Tryd.prog (ER1Join) 40 qj8) (head (ER1Join) 3) ⟨[(0, qG 1 v1), (3, .ref 67 0 v2 true 1), (4, qI v3)], [(67, ⟨.ints .u8 v4, false⟩)]⟩ k = qk3 (fun v1 v2 v3 v4 => qbg n (qa1 Tryd.prog (ER1Join) 40 qj8) (head (ER1Join) 3) ⟨[(0, qG 1 v1), (3, .ref 67 0 v2 true 1), (4, qI v3)], [(67, ⟨.ints .u8 v4, false⟩)]⟩ k) (qi1 k) v1 v2 v3 v4 := by kernel_rfl
theorem qpy (k : KT) : ∀ (n : Nat), ∀ (v1 : LC) (v2 : Nat) (v3 : Int) (v4 : LI), qbg n (qa1 Tryd.prog (ER1Join) 40 qj8) (head (ER1Join) 3) ⟨[(0, qG 1 v1), (3, .ref 67 0 v2 true 1), (4, qI v3)], [(67, ⟨.ints .u8 v4, false⟩)]⟩ k = qe4 (qi1 k) n v1 v2 v3 v4
 | 0 => by intros; rfl
 | n + 1 => by
  intros
  rw [qui]
  have ih := qpy k n
  simp only [qe4, ih]
theorem q4l : ∀ (σ : St) (k : KT) (r : Out), qyj σ k = some r -> ∃ n, qbg n (qa1 Tryd.prog (ER1Join) 40 qj8) (head (ER1Join) 3) σ k = some r := by
 intro σ k r h
 unfold qyj at h
 split at h
 ·replace h := qaa h
  obtain ⟨hc, h⟩ := h
  simp only [Bool.and_eq_true, qa7, decide_eq_true_eq, Bool.not_eq_true'] at hc
  obtain ⟨⟨⟨⟨⟨⟨⟨rfl, rfl⟩, rfl⟩, rfl⟩, rfl⟩, rfl⟩, rfl⟩, rfl⟩ := hc
  rw [qae] at h
  exact ⟨FUEL, (qpy k FUEL _ _ _ _ ).trans h⟩
 ·cases h
theorem q8d : ∀ c, Tryd.f45.body = some c -> qaq Tryd.prog (ER1Join) 40 c := by
 intro c hc
 cases hc
 exact ⟨trivial, ⟨trivial, ⟨⟨trivial, ⟨qaj _ (by kernel_rfl), qb5 rfl (q4l)⟩, qaf rfl⟩, ⟨trivial, trivial, qaf rfl⟩, qaf rfl⟩, qaf rfl⟩, qaf rfl⟩
noncomputable def gR1Join (l : LC) : OO :=
 shut (qe4
 (fun y1 y2 y3 y4 y5 y6 y7 =>
 some (.ret [.cl (.sli .u8 y7)] []))
 FUEL) l 0 0 []
theorem gR1Join_eq (l : LC) : qcc Tryd.prog (ER1Join) 40 false Tryd.f45 [.cl (.slg 1 l)] [] = gR1Join l := by kernel_rfl

abbrev qrb := LC -> Int -> LC -> Int -> Int -> OO
abbrev qvy := ByteArray -> LC -> Int -> LI -> LC -> Int -> Int -> LC -> Nat -> LI -> Int -> LI -> Int -> Int -> Int -> ByteArray -> OO
abbrev qqu := Nat -> LC -> Int -> Int -> LI -> OO
noncomputable def qg8 (again : qrb) (k0 : qvy) (k1 : qrb) (v1 : LC) (v2 : Int) (v3 : LC) (v4 v5 : Int) : OO :=
 cond (decide (v5 < v4)) (
 cond (decide ((0 : Int) <= v5)) (
 cond (decide (v5 < ((v3.length : Nat) : Int))) (
 Option.bind (v3[(Int.toNat v5)]?) fun (e1 : CV) =>
 let e2 : CV := (cell1 e1).getD 0 .nili
 cond (qy3 .u8 e2) (
 let l3 : LI := qec e2
 let x4 : Int := IntKind.i64.wrap (v2 + ((l3.length : Nat) : Int))
 cond (decide (x4 < 0)) (
 k0 (⟨#[108, 101, 110, 32, 111, 117, 116, 32, 111, 102, 32, 114, 97, 110, 103, 101]⟩ : ByteArray) v1 x4 l3 v3 v4 v5 v3 (Int.toNat v5) l3 v2 l3 ((l3.length : Nat) : Int) x4 x4 (⟨#[108, 101, 110, 32, 111, 117, 116, 32, 111, 102, 32, 114, 97, 110, 103, 101]⟩ : ByteArray))
 (
 let x5 : Int := IntKind.i64.wrap (v5 + 1)
 again v1 x4 v3 v4 x5)) none) none) none)
 (
 k1 v1 v2 v3 v4 v5)
noncomputable def qd0 (k0 : qvy) (k1 : qrb) : Nat -> LC -> Int -> LC -> Int -> Int -> OO
 | 0 => fun _ _ _ _ _ => none
 | n + 1 => qg8 (qd0 k0 k1 n) k0 k1
noncomputable def qfj (again : qqu) (k0 : qqu) (v1 : Nat) (v2 : LC) (v3 v4 : Int) (v5 : LI) : OO :=
 cond (decide (v4 < v3)) (
 cond (decide ((0 : Int) <= v4)) (
 cond (decide (v4 < ((v2.length : Nat) : Int))) (
 Option.bind (v2[(Int.toNat v4)]?) fun (e23 : CV) =>
 let e24 : CV := (cell1 e23).getD 0 .nili
 cond (qy3 .u8 e24) (
 let l25 : LI := qec e24
 let l26 : LI := v5 ++ l25
 cond (decide (((l26.length : Nat) : Int) * 1 <= LIM)) (
 cond (decide (((l26.length : Nat) : Int) <= LIM)) (
 let x27 : Int := IntKind.i64.wrap (v4 + 1)
 again l26.length v2 v3 x27 l26) none) none) none) none) none)
 (
 k0 v1 v2 v3 v4 v5)
noncomputable def qcw (k0 : qqu) : Nat -> Nat -> LC -> Int -> Int -> LI -> OO
 | 0 => fun _ _ _ _ _ => none
 | n + 1 => qfj (qcw k0 n) k0
noncomputable def qg5 (k : KT) : qvy := fun y1 y2 y3 y4 y5 y6 y7 y8 y9 y10 y11 y12 y13 y14 y15 y16 => k (.pan (.iface 9 (.str y1))) ⟨[(0, qG 1 y2), (3, qI y3), (5, qS y4), (9, qG 1 y5), (10, qI y6), (11, qI y7), (12, qB true), (13, .cl (.vp (.slg 1 y8) y9 0)), (14, qS y10), (15, qI y11), (16, qS y12), (17, qI y13), (18, qI y14), (19, qI y15), (20, qB true), (21, .cl (.iface 9 (.str y16)))], []⟩
noncomputable def qg2 (k : KT) : qrb := fun y1 y2 y3 y4 y5 => k (.exit 0) ⟨[(0, qG 1 y1), (3, qI y2), (9, qG 1 y3), (10, qI y4), (11, qI y5), (12, qB false)], []⟩
noncomputable def qri : St -> (KT) -> OO := fun σ k => match σ with
 | ⟨[(q1, .cl (.slg q2 v1)), (q3, .cl (.int .i64 v2)), (q4, .cl (.slg q5 v3)), (q6, .cl (.int .i64 v4)), (q7, .cl (.int .i64 v5))], []⟩ => cond (Nat.beq q1 0 && Nat.beq q2 1 && Nat.beq q3 3 && Nat.beq q4 9 && Nat.beq q5 1 && Nat.beq q6 10 && Nat.beq q7 11) (shut (qd0 (qg5 k) (qg2 k) FUEL) v1 v2 v3 v4 v5) none
 | _ => none
noncomputable def qfw (k : KT) : qqu := fun y1 y2 y3 y4 y5 => k (.exit 2) ⟨[(6, .ref 88 0 y1 true 1), (25, qG 1 y2), (26, qI y3), (27, qI y4), (28, qB false)], [(88, ⟨.ints .u8 y5, false⟩)]⟩
noncomputable def qoh : St -> (KT) -> OO := fun σ k => match σ with
 | ⟨[(q1, .ref q2 q3 v1 true q4), (q5, .cl (.slg q6 v2)), (q7, .cl (.int .i64 v3)), (q8, .cl (.int .i64 v4))], [(q9, ⟨.ints .u8 v5, false⟩)]⟩ => cond (Nat.beq q1 6 && Nat.beq q2 88 && Nat.beq q3 0 && Nat.beq q4 1 && Nat.beq q5 25 && Nat.beq q6 1 && Nat.beq q7 26 && Nat.beq q8 27 && Nat.beq q9 88) (shut (qcw (qfw k) FUEL) v1 v2 v3 v4 v5) none
 | _ => none
noncomputable def ESConcat : Env := {
 orc := fun g => cond (Nat.beq g 61) SSGrow (fun _ _ => Tree.fail)
 pre := fun g => cond (Nat.beq g 61) q2m (fun _ _ => true)
 byref := fun g => cond (Nat.beq g 61) ([0]) ([])
 keep := fun g => cond (Nat.beq g 61) true (false)
 live := fun r => cond (Nat.beq r 3) ([0, 3, 9, 10, 11]) (cond (Nat.beq r 11) ([6, 25, 26, 27]) ([]))
 ren := fun r => cond (Nat.beq r 11) ([(97, 88)]) ([])
 glob := qb9
 nt := 36
 lp := fun r => cond (Nat.beq r 3) (some (qri)) (cond (Nat.beq r 11) (some (qoh)) (none))
}
noncomputable def qhb : Code := (Cd.fst (Cd.fst (Cd.snd (Cd.fst (Cd.snd (Cd.snd (Tryd.f43.body.getD .skip)))))))
theorem qth (k : KT) (n : Nat) (v1 : LC) (v2 : Int) (v3 : LC) (v4 v5 : Int) : qbg (n + 1) (qa1 Tryd.prog (ESConcat) 40 qhb) (head (ESConcat) 3) ⟨[(0, qG 1 v1), (3, qI v2), (9, qG 1 v3), (10, qI v4), (11, qI v5)], []⟩ k = qg8 (fun v1 v2 v3 v4 v5 => qbg n (qa1 Tryd.prog (ESConcat) 40 qhb) (head (ESConcat) 3) ⟨[(0, qG 1 v1), (3, qI v2), (9, qG 1 v3), (10, qI v4), (11, qI v5)], []⟩ k) (qg5 k) (qg2 k) v1 v2 v3 v4 v5 := by kernel_rfl
theorem qnq (k : KT) : ∀ (n : Nat), ∀ (v1 : LC) (v2 : Int) (v3 : LC) (v4 v5 : Int), qbg n (qa1 Tryd.prog (ESConcat) 40 qhb) (head (ESConcat) 3) ⟨[(0, qG 1 v1), (3, qI v2), (9, qG 1 v3), (10, qI v4), (11, qI v5)], []⟩ k = qd0 (qg5 k) (qg2 k) n v1 v2 v3 v4 v5
 | 0 => by intros; rfl
 | n + 1 => by
  intros
  rw [qth]
  have ih := qnq k n
  simp only [qd0, ih]
noncomputable def qfl : Code := (Cd.fst (Cd.fst (Cd.snd (Cd.fst (Cd.snd (Cd.snd (Cd.snd (Cd.snd (Tryd.f43.body.getD .skip)))))))))
theorem qqr (k : KT) (n : Nat) (v1 : Nat) (v2 : LC) (v3 v4 : Int) (v5 : LI) : qbg (n + 1) (qa1 Tryd.prog (ESConcat) 40 qfl) (head (ESConcat) 11) ⟨[(6, .ref 88 0 v1 true 1), (25, qG 1 v2), (26, qI v3), (27, qI v4)], [(88, ⟨.ints .u8 v5, false⟩)]⟩ k = qfj (fun v1 v2 v3 v4 v5 => qbg n (qa1 Tryd.prog (ESConcat) 40 qfl) (head (ESConcat) 11) ⟨[(6, .ref 88 0 v1 true 1), (25, qG 1 v2), (26, qI v3), (27, qI v4)], [(88, ⟨.ints .u8 v5, false⟩)]⟩ k) (qfw k) v1 v2 v3 v4 v5 := by kernel_rfl
theorem qlp (k : KT) : ∀ (n : Nat), ∀ (v1 : Nat) (v2 : LC) (v3 v4 : Int) (v5 : LI), qbg n (qa1 Tryd.prog (ESConcat) 40 qfl) (head (ESConcat) 11) ⟨[(6, .ref 88 0 v1 true 1), (25, qG 1 v2), (26, qI v3), (27, qI v4)], [(88, ⟨.ints .u8 v5, false⟩)]⟩ k = qcw (qfw k) n v1 v2 v3 v4 v5
 | 0 => by intros; rfl
 | n + 1 => by
  intros
  rw [qqr]
  have ih := qlp k n
  simp only [qcw, ih]
theorem qzy : ∀ (σ : St) (k : KT) (r : Out), qri σ k = some r -> ∃ n, qbg n (qa1 Tryd.prog (ESConcat) 40 qhb) (head (ESConcat) 3) σ k = some r := by
 intro σ k r h
 unfold qri at h
 split at h
 ·replace h := qaa h
  obtain ⟨hc, h⟩ := h
  simp only [Bool.and_eq_true, qa7, decide_eq_true_eq, Bool.not_eq_true'] at hc
  obtain ⟨⟨⟨⟨⟨⟨rfl, rfl⟩, rfl⟩, rfl⟩, rfl⟩, rfl⟩, rfl⟩ := hc
  rw [qae] at h
  exact ⟨FUEL, (qnq k FUEL _ _ _ _ _ ).trans h⟩
 ·cases h
theorem qx4 : ∀ (σ : St) (k : KT) (r : Out), qoh σ k = some r -> ∃ n, qbg n (qa1 Tryd.prog (ESConcat) 40 qfl) (head (ESConcat) 11) σ k = some r := by
 intro σ k r h
 unfold qoh at h
 split at h
 ·replace h := qaa h
  obtain ⟨hc, h⟩ := h
  simp only [Bool.and_eq_true, qa7, decide_eq_true_eq, Bool.not_eq_true'] at hc
  obtain ⟨⟨⟨⟨⟨⟨⟨⟨rfl, rfl⟩, rfl⟩, rfl⟩, rfl⟩, rfl⟩, rfl⟩, rfl⟩, rfl⟩ := hc
  rw [qae] at h
  exact ⟨FUEL, (qlp k FUEL _ _ _ _ _ ).trans h⟩
 ·cases h
theorem q0y : ∀ c, Tryd.f43.body = some c -> qaq Tryd.prog (ESConcat) 40 c := by
 intro c hc
 cases hc
 exact ⟨trivial, ⟨trivial, ⟨⟨trivial, ⟨qaj _ (by kernel_rfl), qb5 rfl (qzy)⟩, qaf rfl⟩, ⟨trivial, ⟨⟨trivial, ⟨qaj _ (by kernel_rfl), qb5 rfl (qx4)⟩, qaf rfl⟩, ⟨trivial, trivial, qaf rfl⟩, qaf rfl⟩, qaf rfl⟩, qaf rfl⟩, qaf rfl⟩, qaf rfl⟩
noncomputable def q1h (l : LC) : OO :=
 shut (qd0
 (fun y1 y2 y3 y4 y5 y6 y7 y8 y9 y10 y11 y12 y13 y14 y15 y16 =>
 some (.pan (.iface 9 (.str y1)) []))
 (fun y17 y18 y19 y20 y21 =>
 cond (growOk y18) (
 let r22 : LI := noInts
 shut (qcw
 (fun y23 y24 y25 y26 y27 =>
 some (.ret [.cl (.sli .u8 y27)] []))
 FUEL) 0 y17 ((y17.length : Nat) : Int) 0 r22) none)
 FUEL) l 0 l ((l.length : Nat) : Int) 0
theorem q66 (l : LC) : qcc Tryd.prog (ESConcat) 40 false Tryd.f43 [.cl (.slg 1 l)] [] = q1h l := by kernel_rfl

abbrev qvw := Nat -> Int -> LC -> Int -> Int -> Int -> LI -> LC -> LC -> OO
abbrev q1m := Nat -> Int -> Int -> LI -> Bool -> LC -> Int -> Int -> Int -> LC -> Nat -> Int -> LI -> LC -> LI -> Bool -> Int -> LI -> LC -> LI -> Bool -> LI -> Bool -> Bool -> Int -> LI -> LC -> Int -> LI -> LC -> LC -> OO
noncomputable def qkn (rk : Nat) (again : qvw) (k0 : q1m) (k1 : qvw) (v1 : Nat) (v2 : Int) (v3 : LC) (v4 v5 v6 : Int) (v7 : LI) (v8 v9 : LC) : OO :=
 cond (decide (v5 < v4)) (
 cond (decide ((0 : Int) <= v5)) (
 cond (decide (v5 < ((v3.length : Nat) : Int))) (
 Option.bind (v3[(Int.toNat v5)]?) fun (e5 : CV) =>
 let e6 : CV := (cell1 e5).headD .nili
 let e7 : CV := (cell1 e5).tail.headD .nili
 let e8 : CV := (cell1 e5).tail.tail.headD .nili
 cond (q9m .i64 e6 && (qy3 .u8 e7 && (okSlg 3 e8 && true))) (
 let i9 : Int := qrt e6
 let l10 : LI := qec e7
 let l11 : LC := qyl e8
 cond (isWr rk [.int .i64 i9, .sli .u8 l10, .slg 3 l11]) (
 let r12 : LI := (qi9 [.int .i64 i9, .sli .u8 l10, .slg 3 l11]).1
 let r13 : Bool := (qi9 [.int .i64 i9, .sli .u8 l10, .slg 3 l11]).2
 cond (!r13) (
 k0 v1 v2 v5 r12 r13 v3 v4 v5 v5 v3 (Int.toNat v5) i9 l10 l11 r12 r13 i9 l10 l11 r12 r13 r12 r13 r13 v6 v7 v8 i9 l10 l11 v9)
 (
 let x14 : Int := IntKind.i64.wrap (v2 + ((r12.length : Nat) : Int))
 cond (decide ((0 : Int) <= v5)) (
 cond (decide (v5 < ((v1 : Nat) : Int))) (
 let l15 : LC := v9.set (0 + (Int.toNat v5)) (.sli .u8 r12)
 let x16 : Int := IntKind.i64.wrap (v5 + 1)
 again v1 x14 v3 v4 x16 v6 v7 v8 l15) none) none)) none) none) none) none)
 (
 k1 v1 v2 v3 v4 v5 v6 v7 v8 v9)
noncomputable def qe1 (rk : Nat) (k0 : q1m) (k1 : qvw) : Nat -> Nat -> Int -> LC -> Int -> Int -> Int -> LI -> LC -> LC -> OO
 | 0 => fun _ _ _ _ _ _ _ _ _ => none
 | n + 1 => qkn rk (qe1 rk k0 k1 n) k0 k1
noncomputable def qi3 (k : KT) : q1m := fun y1 y2 y3 y4 y5 y6 y7 y8 y9 y10 y11 y12 y13 y14 y15 y16 y17 y18 y19 y20 y21 y22 y23 y24 y25 y26 y27 y28 y29 y30 y31 => k .ret ⟨[(1, .ptr 65 0 0), (2, .ref 66 0 0 true 1), (3, qB false), (4, .ref 90 0 y1 true 1), (5, qI y2), (6, qI y3), (7, .ptr 71 0 0), (8, qS y4), (9, qB y5), (28, qG 3 y6), (29, qI y7), (30, qI y8), (31, qB true), (32, qI y9), (33, .cl (.vp (.slg 3 y10) y11 0)), (34, .cl (.agg [.int .i64 y12, .sli .u8 y13, .slg 3 y14])), (35, .tup [qS y15, qB y16]), (36, .cl (.agg [.int .i64 y17, .sli .u8 y18, .slg 3 y19])), (37, .tup [qS y20, qB y21]), (38, qS y22), (39, qB y23), (40, qB y24), (41, qB true)], [(65, ⟨.var [qI y25, qS y26, qG 3 y27], false⟩), (66, ⟨.ints .u8 [], false⟩), (71, ⟨.var [qI y28, qS y29, qG 3 y30], false⟩), (90, ⟨.gen 1 y31, false⟩)]⟩
noncomputable def qjl (k : KT) : qvw := fun y1 y2 y3 y4 y5 y6 y7 y8 y9 => k (.exit 0) ⟨[(1, .ptr 65 0 0), (4, .ref 90 0 y1 true 1), (5, qI y2), (28, qG 3 y3), (29, qI y4), (30, qI y5), (31, qB false)], [(65, ⟨.var [qI y6, qS y7, qG 3 y8], false⟩), (90, ⟨.gen 1 y9, false⟩)]⟩
noncomputable def qv5 (rk : Nat) : St -> (KT) -> OO := fun σ k => match σ with
 | ⟨[(q1, .ptr q2 q3 q4), (q5, .ref q6 q7 v1 true q8), (q9, .cl (.int .i64 v2)), (q10, .cl (.slg q11 v3)), (q12, .cl (.int .i64 v4)), (q13, .cl (.int .i64 v5))], [(q14, ⟨.var [.cl (.int .i64 v6), .cl (.sli .u8 v7), .cl (.slg q15 v8)], false⟩), (q16, ⟨.gen q17 v9, false⟩)]⟩ => cond (Nat.beq q1 1 && Nat.beq q2 65 && Nat.beq q3 0 && Nat.beq q4 0 && Nat.beq q5 4 && Nat.beq q6 90 && Nat.beq q7 0 && Nat.beq q8 1 && Nat.beq q9 5 && Nat.beq q10 28 && Nat.beq q11 3 && Nat.beq q12 29 && Nat.beq q13 30 && Nat.beq q14 65 && Nat.beq q15 3 && Nat.beq q16 90 && Nat.beq q17 1) (shut (qe1 rk (qi3 k) (qjl k) FUEL) v1 v2 v3 v4 v5 v6 v7 v8 v9) none
 | _ => none
noncomputable def EDWrite (rk : Nat) : Env := {
 orc := fun g => cond (Nat.beq g 18) SDBoxed (cond (Nat.beq g 26) SDWrite (cond (Nat.beq g 41) SDPut (cond (Nat.beq g 42) SOSorted (cond (Nat.beq g 43) SSConcat (fun _ _ => Tree.fail)))))
 pre := fun g => cond (Nat.beq g 18) qke (cond (Nat.beq g 26) (qf9 (rk)) (cond (Nat.beq g 41) preDPut (cond (Nat.beq g 42) qtu (cond (Nat.beq g 43) qzp (fun _ _ => true)))))
 byref := fun g => cond (Nat.beq g 41) ([0]) ([])
 keep := fun g => cond (Nat.beq g 41) true (false)
 live := fun r => cond (Nat.beq r 6) ([1, 4, 5, 28, 29, 30]) ([])
 glob := qb9
 nt := 66
 lp := fun r => cond (Nat.beq r 6) (some (qv5 rk)) (none)
}
noncomputable def qj5 : Code := (Cd.fst (Cd.fst (Cd.snd (Cd.fst (Cd.snd (Cd.snd (Cd.snd (Cd.snd (Tryd.f26.body.getD .skip)))))))))
theorem qug (rk : Nat) (k : KT) (n : Nat) (v1 : Nat) (v2 : Int) (v3 : LC) (v4 v5 v6 : Int) (v7 : LI) (v8 v9 : LC) : qbg (n + 1) (qa1 Tryd.prog (EDWrite rk) 40 qj5) (head (EDWrite rk) 6) ⟨[(1, .ptr 65 0 0), (4, .ref 90 0 v1 true 1), (5, qI v2), (28, qG 3 v3), (29, qI v4), (30, qI v5)], [(65, ⟨.var [qI v6, qS v7, qG 3 v8], false⟩), (90, ⟨.gen 1 v9, false⟩)]⟩ k = qkn rk (fun v1 v2 v3 v4 v5 v6 v7 v8 v9 => qbg n (qa1 Tryd.prog (EDWrite rk) 40 qj5) (head (EDWrite rk) 6) ⟨[(1, .ptr 65 0 0), (4, .ref 90 0 v1 true 1), (5, qI v2), (28, qG 3 v3), (29, qI v4), (30, qI v5)], [(65, ⟨.var [qI v6, qS v7, qG 3 v8], false⟩), (90, ⟨.gen 1 v9, false⟩)]⟩ k) (qi3 k) (qjl k) v1 v2 v3 v4 v5 v6 v7 v8 v9 := by kernel_rfl
theorem qpz (rk : Nat) (k : KT) : ∀ (n : Nat), ∀ (v1 : Nat) (v2 : Int) (v3 : LC) (v4 v5 v6 : Int) (v7 : LI) (v8 v9 : LC), qbg n (qa1 Tryd.prog (EDWrite rk) 40 qj5) (head (EDWrite rk) 6) ⟨[(1, .ptr 65 0 0), (4, .ref 90 0 v1 true 1), (5, qI v2), (28, qG 3 v3), (29, qI v4), (30, qI v5)], [(65, ⟨.var [qI v6, qS v7, qG 3 v8], false⟩), (90, ⟨.gen 1 v9, false⟩)]⟩ k = qe1 rk (qi3 k) (qjl k) n v1 v2 v3 v4 v5 v6 v7 v8 v9
 | 0 => by intros; rfl
 | n + 1 => by
  intros
  rw [qug]
  have ih := qpz rk k n
  simp only [qe1, ih]
theorem q06 (rk : Nat) : ∀ (σ : St) (k : KT) (r : Out), qv5 rk σ k = some r -> ∃ n, qbg n (qa1 Tryd.prog (EDWrite rk) 40 qj5) (head (EDWrite rk) 6) σ k = some r := by
 intro σ k r h
 unfold qv5 at h
 split at h
 ·replace h := qaa h
  obtain ⟨hc, h⟩ := h
  simp only [Bool.and_eq_true, qa7, decide_eq_true_eq, Bool.not_eq_true'] at hc
  obtain ⟨⟨⟨⟨⟨⟨⟨⟨⟨⟨⟨⟨⟨⟨⟨⟨rfl, rfl⟩, rfl⟩, rfl⟩, rfl⟩, rfl⟩, rfl⟩, rfl⟩, rfl⟩, rfl⟩, rfl⟩, rfl⟩, rfl⟩, rfl⟩, rfl⟩, rfl⟩, rfl⟩ := hc
  rw [qae] at h
  exact ⟨FUEL, (qpz rk k FUEL _ _ _ _ _ _ _ _ _ ).trans h⟩
 ·cases h
theorem q8p (rk : Nat) : ∀ c, Tryd.f26.body = some c -> qaq Tryd.prog (EDWrite rk) 40 c := by
 intro c hc
 cases hc
 exact ⟨trivial, ⟨qaj _ (by kernel_rfl), ⟨trivial, ⟨trivial, ⟨⟨trivial, ⟨qaj _ (by kernel_rfl), qb5 rfl (q06 rk)⟩, qaf rfl⟩, qaj _ (by kernel_rfl), qaf rfl⟩, qaf rfl⟩, qaf rfl⟩, qaf rfl⟩, qaf rfl⟩
noncomputable def xbap (rk : Nat) (ta : Int) (ba : LI) (ka : LC) : OO :=
 let r1 : Bool := qbe ta
 cond (!r1) (
 cond (qlk ta ((ba.length : Nat) : Int)) (
 let r3 : LI := qcp ta ((ba.length : Nat) : Int)
 let l4 : LI := r3 ++ ba
 cond (decide (((l4.length : Nat) : Int) * 1 <= LIM)) (
 cond (decide (((l4.length : Nat) : Int) <= LIM)) (
 some (.ret [.cl (.sli .u8 l4), .cl (.bool true)] [])) none) none) none)
 (
 cond (decide ((0 : Int) <= ((ka.length : Nat) : Int))) (
 cond (decide (((ka.length : Nat) : Int) <= ((ka.length : Nat) : Int))) (
 cond (decide (((ka.length : Nat) : Int) * 24 <= LIM)) (
 cond (decide (((ka.length : Nat) : Int) <= LIM)) (
 shut (qe1 rk
 (fun y5 y6 y7 y8 y9 y10 y11 y12 y13 y14 y15 y16 y17 y18 y19 y20 y21 y22 y23 y24 y25 y26 y27 y28 y29 y30 y31 y32 y33 y34 y35 =>
 some (.ret [.cl (.sli .u8 []), .cl (.bool false)] []))
 (fun y36 y37 y38 y39 y40 y41 y42 y43 y44 =>
 cond (decide (y41 = 49)) (
 cond (qga y44) (
 let r45 : Bool := qbi y44
 cond (!r45) (
 some (.ret [.cl (.sli .u8 []), .cl (.bool false)] []))
 (
 cond (qlk y41 y37) (
 let r47 : LI := qcp y41 y37
 cond (qo0 y44) (
 let r48 : LI := qct y44
 let l49 : LI := r47 ++ r48
 cond (decide (((l49.length : Nat) : Int) * 1 <= LIM)) (
 cond (decide (((l49.length : Nat) : Int) <= LIM)) (
 some (.ret [.cl (.sli .u8 l49), .cl (.bool true)] [])) none) none) none) none)) none)
 (
 cond (qlk y41 y37) (
 let r51 : LI := qcp y41 y37
 cond (qo0 y44) (
 let r52 : LI := qct y44
 let l53 : LI := r51 ++ r52
 cond (decide (((l53.length : Nat) : Int) * 1 <= LIM)) (
 cond (decide (((l53.length : Nat) : Int) <= LIM)) (
 some (.ret [.cl (.sli .u8 l53), .cl (.bool true)] [])) none) none) none) none))
 FUEL) (Int.toNat ((ka.length : Nat) : Int)) 0 ka ((ka.length : Nat) : Int) 0 ta ba ka (List.replicate (Int.toNat ((ka.length : Nat) : Int)) (.sli .u8 []))) none) none) none) none)
theorem gDWrite_eq (rk : Nat) (ta : Int) (ba : LI) (ka : LC) : qcc Tryd.prog (EDWrite rk) 40 false Tryd.f26 [.cl (.agg [.int .i64 ta, .sli .u8 ba, .slg 3 ka])] [] = xbap rk ta ba ka := by kernel_rfl
end Go.Proofs.YtbgkadaidhgggaaDoorA
