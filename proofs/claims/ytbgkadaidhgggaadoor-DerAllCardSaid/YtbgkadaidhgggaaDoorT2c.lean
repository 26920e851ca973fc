/-
 What the reading of apostille/apostilleref05.Utf8 comes to, printed by a program. Conditions: none.
-/
import Derived.Test.YtbgkadaidhgggaaDoorT1
set_option linter.unusedVariables false
set_option linter.unusedSimpArgs false
set_option maxRecDepth 100000
namespace Go.Proofs.YtbgkadaidhgggaaDoorA
abbrev zRUtf80 := LI -> Int -> Int -> Int -> LI -> Int -> LI -> Int -> Int -> Int -> OO
abbrev zRUtf81 := LI -> Int -> Int -> LI -> Int -> OO
noncomputable def qm2 (again : LI -> Int -> OO) (k0 : zRUtf80) (k1 : zRUtf81) (v1 : LI) (v2 : Int) : OO :=
 cond (decide (v2 < ((v1.length : Nat) : Int))) (
 cond (qac v1 && decide (0 <= v2 /\ v2 < v1.length)) (
 let r1 : Int := u8Rune v1 v2
 cond (decide (r1 = 0)) (
 k0 v1 v2 r1 v2 v1 ((v1.length : Nat) : Int) v1 v2 r1 r1)
 (
 let x2 : Int := IntKind.i64.wrap (v2 + r1)
 again v1 x2)) none)
 (
 k1 v1 v2 v2 v1 ((v1.length : Nat) : Int))
noncomputable def qhd (k0 : zRUtf80) (k1 : zRUtf81) : Nat -> LI -> Int -> OO
 | 0 => fun _ _ => none
 | n + 1 => qm2 (qhd k0 k1 n) k0 k1
noncomputable def qlu (k : KT) : zRUtf80 := fun y1 y2 y3 y4 y5 y6 y7 y8 y9 y10 => k .ret ⟨[(0, qS y1), (2, qB false), (3, qI y2), (4, qI y3), (5, qI y4), (6, qS y5), (7, qI y6), (8, qB true), (9, qS y7), (10, qI y8), (11, qI y9), (12, qI y10), (13, qB true)], []⟩
noncomputable def ql4 (k : KT) : zRUtf81 := fun y1 y2 y3 y4 y5 => k (.exit 0) ⟨[(0, qS y1), (3, qI y2), (5, qI y3), (6, qS y4), (7, qI y5), (8, qB false)], []⟩
noncomputable def LRUtf8_2 : St -> (KT) -> OO := fun σ k => match σ with
 | ⟨[(q1, .cl (.sli .u8 v1)), (q2, .cl (.int .i64 v2))], []⟩ => cond (Nat.beq q1 0 && Nat.beq q2 3) (shut (qhd (qlu k) (ql4 k) FUEL) v1 v2) none
 | _ => none
noncomputable def ERUtf8 : Env := {
 orc := fun g => cond (Nat.beq g 70) SRRune (fun _ _ => Tree.fail)
 pre := fun g => cond (Nat.beq g 70) preRRune (fun _ _ => true)
 live := fun r => cond (Nat.beq r 2) ([0, 3]) ([])
 glob := qca
 nt := 17
 lp := fun r => cond (Nat.beq r 2) (some (LRUtf8_2)) (none)
}
noncomputable def qm5 : Code := (Cd.fst (Cd.fst (Cd.snd (Cd.fst (Cd.snd (Tryd.f55.body.getD .skip))))))
theorem lpRUtf8_2_step (k : KT) (n : Nat) (v1 : LI) (v2 : Int) : qbi (n + 1) (qa3 Tryd.prog (ERUtf8) 40 qm5) (head (ERUtf8) 2) ⟨[(0, qS v1), (3, qI v2)], []⟩ k = qm2 (fun v1 v2 => qbi n (qa3 Tryd.prog (ERUtf8) 40 qm5) (head (ERUtf8) 2) ⟨[(0, qS v1), (3, qI v2)], []⟩ k) (qlu k) (ql4 k) v1 v2 := by kernel_rfl
theorem qrx (k : KT) : ∀ (n : Nat), ∀ (v1 : LI) (v2 : Int), qbi n (qa3 Tryd.prog (ERUtf8) 40 qm5) (head (ERUtf8) 2) ⟨[(0, qS v1), (3, qI v2)], []⟩ k = qhd (qlu k) (ql4 k) n v1 v2
 | 0 => by intros; rfl
 | n + 1 => by
  intros
  rw [lpRUtf8_2_step]
  have ih := qrx k n
  simp only [qhd, ih]
theorem LRUtf8_2_ok : ∀ (σ : St) (k : KT) (r : Out), LRUtf8_2 σ k = some r -> ∃ n, qbi n (qa3 Tryd.prog (ERUtf8) 40 qm5) (head (ERUtf8) 2) σ k = some r := by
 intro σ k r h
 unfold LRUtf8_2 at h
 split at h
 ·replace h := qaa h
  obtain ⟨hc, h⟩ := h
  simp only [Bool.and_eq_true, qbb, decide_eq_true_eq, Bool.not_eq_true'] at hc
  obtain ⟨rfl, rfl⟩ := hc
  rw [qae] at h
  exact ⟨FUEL, (qrx k FUEL _ _ ).trans h⟩
 ·cases h
theorem loopsRUtf8 : ∀ c, Tryd.f55.body = some c -> qaq Tryd.prog (ERUtf8) 40 c := by
 intro c hc
 cases hc
 exact ⟨trivial, ⟨⟨trivial, ⟨qal _ (by kernel_rfl), qcc rfl (LRUtf8_2_ok)⟩, qag rfl⟩, ⟨trivial, trivial, qag rfl⟩, qag rfl⟩, qag rfl⟩
noncomputable def gRUtf8 (b : LI) : OO :=
 shut (qhd
 (fun y1 y2 y3 y4 y5 y6 y7 y8 y9 y10 =>
 some (.ret [.cl (.bool false)] []))
 (fun y11 y12 y13 y14 y15 =>
 some (.ret [.cl (.bool true)] []))
 FUEL) b 0
theorem gRUtf8_eq (b : LI) : qco Tryd.prog (ERUtf8) 40 false Tryd.f55 [.cl (.sli .u8 b)] [] = gRUtf8 b := by kernel_rfl

noncomputable def EOFit : Env := {
 orc := fun _ => fun _ _ => Tree.fail
 pre := fun _ => fun _ _ => true
 glob := qca
 nt := 31
}
theorem loopsOFit : ∀ c, Tryd.f63.body = some c -> qaq Tryd.prog (EOFit) 40 c := by
 intro c hc
 cases hc
 exact qal _ (by kernel_rfl)
noncomputable def gOFit (o : LI) : OO :=
 cond (decide (((o.length : Nat) : Int) < 2)) (
 some (.ret [.cl (.bool false)] []))
 (
 cond (decide ((20 : Int) < ((o.length : Nat) : Int))) (
 some (.ret [.cl (.bool false)] []))
 (
 cond (decide ((0 : Int) < ((o.length : Nat) : Int))) (
 Option.bind (o[0]?) fun (e1 : Int) =>
 cond (decide ((2 : Int) < e1)) (
 some (.ret [.cl (.bool false)] []))
 (
 cond (decide ((0 : Int) < ((o.length : Nat) : Int))) (
 Option.bind (o[0]?) fun (e2 : Int) =>
 cond (decide (e2 < 2)) (
 cond (decide ((1 : Int) < ((o.length : Nat) : Int))) (
 Option.bind (o[1]?) fun (e3 : Int) =>
 some (.ret [.cl (.bool (decide (e3 < 40)))] [])) none)
 (
 cond (decide ((1 : Int) < ((o.length : Nat) : Int))) (
 Option.bind (o[1]?) fun (e4 : Int) =>
 some (.ret [.cl (.bool (decide (e4 <= 4294967215)))] [])) none)) none)) none))
theorem gOFit_eq (o : LI) : qco Tryd.prog (EOFit) 40 false Tryd.f63 [.cl (.sli .u32 o)] [] = gOFit o := by kernel_rfl

noncomputable def ER2Fit : Env := {
 orc := fun _ => fun _ _ => Tree.fail
 pre := fun _ => fun _ _ => true
 glob := qca
 nt := 39
}
theorem loopsR2Fit : ∀ c, Tryd.f69.body = some c -> qaq Tryd.prog (ER2Fit) 40 c := by
 intro c hc
 cases hc
 exact qal _ (by kernel_rfl)
noncomputable def gR2Fit (o : LI) : OO :=
 cond (decide (((o.length : Nat) : Int) < 2)) (
 some (.ret [.cl (.bool false)] []))
 (
 cond (decide ((20 : Int) < ((o.length : Nat) : Int))) (
 some (.ret [.cl (.bool false)] []))
 (
 cond (decide ((0 : Int) < ((o.length : Nat) : Int))) (
 Option.bind (o[0]?) fun (e1 : Int) =>
 cond (decide ((2 : Int) < e1)) (
 some (.ret [.cl (.bool false)] []))
 (
 cond (decide ((0 : Int) < ((o.length : Nat) : Int))) (
 Option.bind (o[0]?) fun (e2 : Int) =>
 cond (decide (e2 < 2)) (
 cond (decide ((1 : Int) < ((o.length : Nat) : Int))) (
 Option.bind (o[1]?) fun (e3 : Int) =>
 cond (decide (e3 < 40)) (
 some (.ret [.cl (.bool true)] []))
 (
 cond (decide ((0 : Int) < ((o.length : Nat) : Int))) (
 Option.bind (o[0]?) fun (e4 : Int) =>
 cond (decide (e4 = 2)) (
 cond (decide ((1 : Int) < ((o.length : Nat) : Int))) (
 Option.bind (o[1]?) fun (e5 : Int) =>
 some (.ret [.cl (.bool (decide (e5 <= 4294967215)))] [])) none)
 (
 some (.ret [.cl (.bool false)] []))) none)) none)
 (
 cond (decide ((0 : Int) < ((o.length : Nat) : Int))) (
 Option.bind (o[0]?) fun (e6 : Int) =>
 cond (decide (e6 = 2)) (
 cond (decide ((1 : Int) < ((o.length : Nat) : Int))) (
 Option.bind (o[1]?) fun (e7 : Int) =>
 some (.ret [.cl (.bool (decide (e7 <= 4294967215)))] [])) none)
 (
 some (.ret [.cl (.bool false)] []))) none)) none)) none))
theorem gR2Fit_eq (o : LI) : qco Tryd.prog (ER2Fit) 40 false Tryd.f69 [.cl (.sli .u32 o)] [] = gR2Fit o := by kernel_rfl

noncomputable def ER2First : Env := {
 orc := fun _ => fun _ _ => Tree.fail
 pre := fun _ => fun _ _ => true
 glob := qca
 nt := 16
}
theorem loopsR2First : ∀ c, Tryd.f68.body = some c -> qaq Tryd.prog (ER2First) 40 c := by
 intro c hc
 cases hc
 exact qal _ (by kernel_rfl)
noncomputable def gR2First (n : Int) : OO :=
 cond (decide (n < 80)) (
 let x1 : Int := IntKind.u64.wrap (Int.tdiv n 40)
 let x2 : Int := IntKind.u32.wrap x1
 let x3 : Int := Int.tmod n 40
 let x4 : Int := IntKind.u32.wrap x3
 some (.ret [.cl (.sli .u32 [x2, x4])] []))
 (
 let x5 : Int := IntKind.u64.wrap (n - 80)
 let x6 : Int := IntKind.u32.wrap x5
 some (.ret [.cl (.sli .u32 [2, x6])] []))
theorem gR2First_eq (n : Int) : qco Tryd.prog (ER2First) 40 false Tryd.f68 [.cl (.int .u64 n)] [] = gR2First n := by kernel_rfl

abbrev zONumber0 := Int -> Int -> Int -> LI -> Int -> Int -> Int -> LI -> Nat -> Int -> Int -> Bool -> Int -> Bool -> Bool -> OO
abbrev zONumber1 := Int -> Int -> Int -> LI -> Int -> Int -> Int -> LI -> Nat -> Int -> Int -> Bool -> Int -> Bool -> Bool -> Int -> Bool -> OO
abbrev zONumber2 := Int -> Int -> Int -> Int -> Int -> LI -> Int -> Int -> Int -> LI -> Nat -> Int -> Int -> Bool -> Int -> Bool -> Bool -> Int -> Bool -> Int -> Int -> Int -> Int -> Int -> Int -> Int -> Int -> Int -> Int -> Int -> Int -> OO
abbrev zONumber3 := Int -> Int -> Int -> LI -> Int -> Int -> Int -> LI -> Nat -> Int -> Int -> Bool -> Int -> Bool -> OO
abbrev zONumber4 := Int -> Int -> Int -> Int -> Int -> LI -> Int -> Int -> Int -> LI -> Nat -> Int -> Int -> Bool -> Int -> Bool -> Int -> Int -> Int -> Int -> Int -> Int -> Int -> Int -> Int -> Int -> Int -> Int -> OO
noncomputable def qha (again : Int -> LI -> Int -> Int -> OO) (k0 : zONumber0) (k1 : zONumber1) (k2 : zONumber2) (k3 : zONumber3) (k4 : zONumber4) (k5 : Int -> LI -> Int -> Int -> OO) (v1 : Int) (v2 : LI) (v3 v4 : Int) : OO :=
 cond (decide (v4 < v3)) (
 cond (decide ((0 : Int) <= v4)) (
 cond (decide (v4 < ((v2.length : Nat) : Int))) (
 Option.bind (v2[(Int.toNat v4)]?) fun (e1 : Int) =>
 cond (decide (v4 = 0)) (
 cond (decide (e1 = 128)) (
 k0 v1 v4 e1 v2 v3 v4 v4 v2 (Int.toNat v4) e1 v4 (decide (v4 = 0)) e1 (decide (e1 = 128)) (decide (e1 = 128)))
 (
 cond (decide ((33554431 : Int) < v1)) (
 k1 v1 v4 e1 v2 v3 v4 v4 v2 (Int.toNat v4) e1 v4 (decide (v4 = 0)) e1 (decide (e1 = 128)) (decide (e1 = 128)) v1 (decide ((33554431 : Int) < v1)))
 (
 let x2 : Int := IntKind.u64.wrap (v1 * 2 ^ 7)
 let x3 : Int := IntKind.u8.wrap ((BitVec.ofInt 8 e1 &&& ~~~ BitVec.ofInt 8 128).toNat)
 let x4 : Int := IntKind.u64.wrap x3
 let x5 : Int := IntKind.u64.wrap ((BitVec.ofInt 64 x2 ||| BitVec.ofInt 64 x4).toNat)
 let x6 : Int := IntKind.u8.wrap ((BitVec.ofInt 8 e1 &&& BitVec.ofInt 8 128).toNat)
 cond (decide (x6 = 0)) (
 let x7 : Int := IntKind.u32.wrap x5
 let x8 : Int := IntKind.i64.wrap (v4 + 1)
 k2 x7 x8 x5 v4 e1 v2 v3 v4 v4 v2 (Int.toNat v4) e1 v4 (decide (v4 = 0)) e1 (decide (e1 = 128)) (decide (e1 = 128)) v1 (decide ((33554431 : Int) < v1)) v1 x2 e1 x3 x4 x5 e1 x6 x5 x7 v4 x8)
 (
 let x9 : Int := IntKind.i64.wrap (v4 + 1)
 again x5 v2 v3 x9))))
 (
 cond (decide ((33554431 : Int) < v1)) (
 k3 v1 v4 e1 v2 v3 v4 v4 v2 (Int.toNat v4) e1 v4 (decide (v4 = 0)) v1 (decide ((33554431 : Int) < v1)))
 (
 let x10 : Int := IntKind.u64.wrap (v1 * 2 ^ 7)
 let x11 : Int := IntKind.u8.wrap ((BitVec.ofInt 8 e1 &&& ~~~ BitVec.ofInt 8 128).toNat)
 let x12 : Int := IntKind.u64.wrap x11
 let x13 : Int := IntKind.u64.wrap ((BitVec.ofInt 64 x10 ||| BitVec.ofInt 64 x12).toNat)
 let x14 : Int := IntKind.u8.wrap ((BitVec.ofInt 8 e1 &&& BitVec.ofInt 8 128).toNat)
 cond (decide (x14 = 0)) (
 let x15 : Int := IntKind.u32.wrap x13
 let x16 : Int := IntKind.i64.wrap (v4 + 1)
 k4 x15 x16 x13 v4 e1 v2 v3 v4 v4 v2 (Int.toNat v4) e1 v4 (decide (v4 = 0)) v1 (decide ((33554431 : Int) < v1)) v1 x10 e1 x11 x12 x13 e1 x14 x13 x15 v4 x16)
 (
 let x17 : Int := IntKind.i64.wrap (v4 + 1)
 again x13 v2 v3 x17)))) none) none)
 (
 k5 v1 v2 v3 v4)
noncomputable def qdw (k0 : zONumber0) (k1 : zONumber1) (k2 : zONumber2) (k3 : zONumber3) (k4 : zONumber4) (k5 : Int -> LI -> Int -> Int -> OO) : Nat -> Int -> LI -> Int -> Int -> OO
 | 0 => fun _ _ _ _ => none
 | n + 1 => qha (qdw k0 k1 k2 k3 k4 k5 n) k0 k1 k2 k3 k4 k5
noncomputable def qhe (k : KT) : zONumber0 := fun y1 y2 y3 y4 y5 y6 y7 y8 y9 y10 y11 y12 y13 y14 y15 => k .ret ⟨[(2, qD 0), (3, qI 0), (4, qW y1), (5, qI y2), (6, qU y3), (7, qS y4), (8, qI y5), (9, qI y6), (10, qB true), (11, qI y7), (12, .cl (.vp (.sli .u8 y8) y9 0)), (13, qU y10), (14, qI y11), (15, qB y12), (16, qB true), (17, qU y13), (18, qB y14), (19, qB y15), (20, qB true), (21, .tup []), (22, .tup []), (23, qB true)], []⟩
noncomputable def qh3 (k : KT) : zONumber1 := fun y1 y2 y3 y4 y5 y6 y7 y8 y9 y10 y11 y12 y13 y14 y15 y16 y17 => k .ret ⟨[(2, qD 0), (3, qI 0), (4, qW y1), (5, qI y2), (6, qU y3), (7, qS y4), (8, qI y5), (9, qI y6), (10, qB true), (11, qI y7), (12, .cl (.vp (.sli .u8 y8) y9 0)), (13, qU y10), (14, qI y11), (15, qB y12), (16, qB true), (17, qU y13), (18, qB y14), (19, qB y15), (20, qB false), (21, qW y16), (22, qB y17), (23, qB true)], []⟩
noncomputable def qg9 (k : KT) : zONumber2 := fun y1 y2 y3 y4 y5 y6 y7 y8 y9 y10 y11 y12 y13 y14 y15 y16 y17 y18 y19 y20 y21 y22 y23 y24 y25 y26 y27 y28 y29 y30 y31 => k .ret ⟨[(2, qD y1), (3, qI y2), (4, qW y3), (5, qI y4), (6, qU y5), (7, qS y6), (8, qI y7), (9, qI y8), (10, qB true), (11, qI y9), (12, .cl (.vp (.sli .u8 y10) y11 0)), (13, qU y12), (14, qI y13), (15, qB y14), (16, qB true), (17, qU y15), (18, qB y16), (19, qB y17), (20, qB false), (21, qW y18), (22, qB y19), (23, qB false), (24, qW y20), (25, qW y21), (26, qU y22), (27, qU y23), (28, qW y24), (29, qW y25), (30, qU y26), (31, qU y27), (32, qB true), (33, qW y28), (34, qD y29), (35, qI y30), (36, qI y31)], []⟩
noncomputable def qh0 (k : KT) : zONumber3 := fun y1 y2 y3 y4 y5 y6 y7 y8 y9 y10 y11 y12 y13 y14 => k .ret ⟨[(2, qD 0), (3, qI 0), (4, qW y1), (5, qI y2), (6, qU y3), (7, qS y4), (8, qI y5), (9, qI y6), (10, qB true), (11, qI y7), (12, .cl (.vp (.sli .u8 y8) y9 0)), (13, qU y10), (14, qI y11), (15, qB y12), (16, qB false), (17, .tup []), (18, .tup []), (19, qB false), (20, qB false), (21, qW y13), (22, qB y14), (23, qB true)], []⟩
noncomputable def qgo (k : KT) : zONumber4 := fun y1 y2 y3 y4 y5 y6 y7 y8 y9 y10 y11 y12 y13 y14 y15 y16 y17 y18 y19 y20 y21 y22 y23 y24 y25 y26 y27 y28 => k .ret ⟨[(2, qD y1), (3, qI y2), (4, qW y3), (5, qI y4), (6, qU y5), (7, qS y6), (8, qI y7), (9, qI y8), (10, qB true), (11, qI y9), (12, .cl (.vp (.sli .u8 y10) y11 0)), (13, qU y12), (14, qI y13), (15, qB y14), (16, qB false), (17, .tup []), (18, .tup []), (19, qB false), (20, qB false), (21, qW y15), (22, qB y16), (23, qB false), (24, qW y17), (25, qW y18), (26, qU y19), (27, qU y20), (28, qW y21), (29, qW y22), (30, qU y23), (31, qU y24), (32, qB true), (33, qW y25), (34, qD y26), (35, qI y27), (36, qI y28)], []⟩
noncomputable def qgr (k : KT) : Int -> LI -> Int -> Int -> OO := fun y1 y2 y3 y4 => k (.exit 0) ⟨[(4, qW y1), (7, qS y2), (8, qI y3), (9, qI y4), (10, qB false)], []⟩
noncomputable def qrf : St -> (KT) -> OO := fun σ k => match σ with
 | ⟨[(q1, .cl (.int .u64 v1)), (q2, .cl (.sli .u8 v2)), (q3, .cl (.int .i64 v3)), (q4, .cl (.int .i64 v4))], []⟩ => cond (Nat.beq q1 4 && Nat.beq q2 7 && Nat.beq q3 8 && Nat.beq q4 9) (shut (qdw (qhe k) (qh3 k) (qg9 k) (qh0 k) (qgo k) (qgr k) FUEL) v1 v2 v3 v4) none
 | _ => none
noncomputable def EONumber : Env := {
 orc := fun _ => fun _ _ => Tree.fail
 pre := fun _ => fun _ _ => true
 live := fun r => cond (Nat.beq r 3) ([4, 7, 8, 9]) ([])
 glob := qca
 nt := 38
 lp := fun r => cond (Nat.beq r 3) (some (qrf)) (none)
}
noncomputable def qhr : Code := (Cd.fst (Cd.fst (Cd.snd (Cd.fst (Cd.snd (Cd.snd (Tryd.f76.body.getD .skip)))))))
theorem qrb (k : KT) (n : Nat) (v1 : Int) (v2 : LI) (v3 v4 : Int) : qbi (n + 1) (qa3 Tryd.prog (EONumber) 40 qhr) (head (EONumber) 3) ⟨[(4, qW v1), (7, qS v2), (8, qI v3), (9, qI v4)], []⟩ k = qha (fun v1 v2 v3 v4 => qbi n (qa3 Tryd.prog (EONumber) 40 qhr) (head (EONumber) 3) ⟨[(4, qW v1), (7, qS v2), (8, qI v3), (9, qI v4)], []⟩ k) (qhe k) (qh3 k) (qg9 k) (qh0 k) (qgo k) (qgr k) v1 v2 v3 v4 := by kernel_rfl
theorem qmj (k : KT) : ∀ (n : Nat), ∀ (v1 : Int) (v2 : LI) (v3 v4 : Int), qbi n (qa3 Tryd.prog (EONumber) 40 qhr) (head (EONumber) 3) ⟨[(4, qW v1), (7, qS v2), (8, qI v3), (9, qI v4)], []⟩ k = qdw (qhe k) (qh3 k) (qg9 k) (qh0 k) (qgo k) (qgr k) n v1 v2 v3 v4
 | 0 => by intros; rfl
 | n + 1 => by
  intros
  rw [qrb]
  have ih := qmj k n
  simp only [qdw, ih]
theorem LONumber_3_ok : ∀ (σ : St) (k : KT) (r : Out), qrf σ k = some r -> ∃ n, qbi n (qa3 Tryd.prog (EONumber) 40 qhr) (head (EONumber) 3) σ k = some r := by
 intro σ k r h
 unfold qrf at h
 split at h
 ·replace h := qaa h
  obtain ⟨hc, h⟩ := h
  simp only [Bool.and_eq_true, qbb, decide_eq_true_eq, Bool.not_eq_true'] at hc
  obtain ⟨⟨⟨rfl, rfl⟩, rfl⟩, rfl⟩ := hc
  rw [qae] at h
  exact ⟨FUEL, (qmj k FUEL _ _ _ _ ).trans h⟩
 ·cases h
theorem loopsONumber : ∀ c, Tryd.f76.body = some c -> qaq Tryd.prog (EONumber) 40 c := by
 intro c hc
 cases hc
 exact ⟨trivial, ⟨trivial, ⟨⟨trivial, ⟨qal _ (by kernel_rfl), qcc rfl (LONumber_3_ok)⟩, qag rfl⟩, ⟨trivial, trivial, qag rfl⟩, qag rfl⟩, qag rfl⟩, qag rfl⟩
noncomputable def gONumber (b : LI) : OO :=
 shut (qdw
 (fun y1 y2 y3 y4 y5 y6 y7 y8 y9 y10 y11 y12 y13 y14 y15 =>
 some (.ret [.cl (.int .u32 0), .cl (.int .i64 0)] []))
 (fun y16 y17 y18 y19 y20 y21 y22 y23 y24 y25 y26 y27 y28 y29 y30 y31 y32 =>
 some (.ret [.cl (.int .u32 0), .cl (.int .i64 0)] []))
 (fun y33 y34 y35 y36 y37 y38 y39 y40 y41 y42 y43 y44 y45 y46 y47 y48 y49 y50 y51 y52 y53 y54 y55 y56 y57 y58 y59 y60 y61 y62 y63 =>
 some (.ret [.cl (.int .u32 y33), .cl (.int .i64 y34)] []))
 (fun y64 y65 y66 y67 y68 y69 y70 y71 y72 y73 y74 y75 y76 y77 =>
 some (.ret [.cl (.int .u32 0), .cl (.int .i64 0)] []))
 (fun y78 y79 y80 y81 y82 y83 y84 y85 y86 y87 y88 y89 y90 y91 y92 y93 y94 y95 y96 y97 y98 y99 y100 y101 y102 y103 y104 y105 =>
 some (.ret [.cl (.int .u32 y78), .cl (.int .i64 y79)] []))
 (fun y106 y107 y108 y109 =>
 some (.ret [.cl (.int .u32 0), .cl (.int .i64 0)] []))
 FUEL) 0 b ((b.length : Nat) : Int) 0
theorem gONumber_eq (b : LI) : qco Tryd.prog (EONumber) 40 false Tryd.f76 [.cl (.sli .u8 b)] [] = gONumber b := by kernel_rfl

noncomputable def EONumbers : Env := {
 orc := fun _ => fun _ _ => Tree.fail
 pre := fun _ => fun _ _ => true
 glob := qca
 nt := 4
}
theorem loopsONumbers : ∀ c, Tryd.f62.body = some c -> qaq Tryd.prog (EONumbers) 40 c := by
 intro c hc
 cases hc
 exact qal _ (by kernel_rfl)
noncomputable def gONumbers (b : LI) : OO :=
 some (.ret [.fn (.func 75) [] [.ptr 0 0 0]] [some ⟨.var [.cl (.sli .u8 b)], false⟩])
theorem gONumbers_eq (b : LI) : qco Tryd.prog (EONumbers) 40 true Tryd.f62 [.cl (.sli .u8 b)] [] = gONumbers b := by kernel_rfl

noncomputable def qkq (again : Nat -> LI -> OO) (k0 : Nat -> LI -> OO) (k1 : Nat -> LI -> OO) (e1 : Int) (e2 : Bool) (v1 : Nat) (v2 : LI) : OO :=
 cond (!e2) (
 k0 v1 v2)
 (
 cond (decide ((20 : Int) < ((v1 : Nat) : Int))) (
 k0 v1 v2)
 (
 cond (decide (((v1 : Nat) : Int) = 0)) (
 let x1 : Int := IntKind.u32.wrap (Int.tdiv e1 40)
 let x2 : Int := cond (decide ((2 : Int) < x1)) 2 x1
 let l3 : LI := v2 ++ [x2]
 cond (decide (((l3.length : Nat) : Int) * 4 <= LIM)) (
 cond (decide (((l3.length : Nat) : Int) <= LIM)) (
 let x4 : Int := IntKind.u32.wrap ((40 : Int) * x2)
 let x5 : Int := IntKind.u32.wrap (e1 - x4)
 let l6 : LI := l3 ++ [x5]
 cond (decide (((l6.length : Nat) : Int) * 4 <= LIM)) (
 cond (decide (((l6.length : Nat) : Int) <= LIM)) (
 again l6.length l6) none) none) none) none)
 (
 let l7 : LI := v2 ++ [e1]
 cond (decide (((l7.length : Nat) : Int) * 4 <= LIM)) (
 cond (decide (((l7.length : Nat) : Int) <= LIM)) (
 again l7.length l7) none) none)))
noncomputable def qga (k0 : Nat -> LI -> OO) (k1 : Nat -> LI -> OO) : List LC -> Nat -> LI -> OO
 | [] => fun v1 v2 => k1 v1 v2
 | x :: r => qkq (qga k0 k1 r) k0 k1 (cvInt (x.getD 0 .nili)) (cvBool (x.getD 1 .nili))
noncomputable def ROParse_3 : St -> List LC -> (KT) -> OO := fun σ xs k => match σ with
 | ⟨[(q1, .ptr q2 q3 q4), (q5, .ptr q6 q7 q8), (q9, .ptr q10 q11 q12)], [(q13, ⟨.var [.nils], false⟩), (q14, ⟨.var [.cl (.int .i64 q15)], false⟩), (q16, ⟨.var [.ref q17 q18 v1 true q19], false⟩), (q20, ⟨.ints .u32 v2, false⟩)]⟩ => cond (List.all xs okONums) (cond (Nat.beq q1 2 && Nat.beq q2 0 && Nat.beq q3 0 && Nat.beq q4 0 && Nat.beq q5 3 && Nat.beq q6 1 && Nat.beq q7 0 && Nat.beq q8 0 && Nat.beq q9 4 && Nat.beq q10 2 && Nat.beq q11 0 && Nat.beq q12 0 && Nat.beq q13 0 && Nat.beq q14 1 && decide (q15 = 0) && Nat.beq q16 2 && Nat.beq q17 100 && Nat.beq q18 0 && Nat.beq q19 1 && Nat.beq q20 100) (shut (qga (fun y1 y2 => k .ret ⟨[(2, .ptr 0 0 0), (3, .ptr 1 0 0), (4, .ptr 2 0 0)], [(0, ⟨.var [.nils], false⟩), (1, ⟨.var [.cl (.int .i64 5)], false⟩), (2, ⟨.var [.ref 100 0 y1 true 1], false⟩), (100, ⟨.ints .u32 y2, false⟩)]⟩) (fun y1 y2 => k .normal ⟨[(2, .ptr 0 0 0), (3, .ptr 1 0 0), (4, .ptr 2 0 0)], [(0, ⟨.var [.nils], false⟩), (1, ⟨.var [.cl (.int .i64 0)], false⟩), (2, ⟨.var [.ref 100 0 y1 true 1], false⟩), (100, ⟨.ints .u32 y2, false⟩)]⟩)) xs v1 v2) none) none
 | _ => none
noncomputable def EOParse : Env := {
 orc := fun g => cond (Nat.beq g 62) SONumbers (cond (Nat.beq g 63) SOFit (fun _ _ => Tree.fail))
 pre := fun g => cond (Nat.beq g 62) preONumbers (cond (Nat.beq g 63) preOFit (cond (Nat.beq g 75) preONums (fun _ _ => true)))
 keep := fun g => cond (Nat.beq g 62) true (false)
 live := fun r => cond (Nat.beq r 3) ([2, 3, 4]) ([])
 vir := fun r => cond (Nat.beq r 3) ([(2, 0, 100, .ints .u32 [])]) ([])
 glob := qca
 nt := 41
 lowr := fun r => cond (Nat.beq r 3) ([(66, 0), (67, 1), (68, 2)]) ([])
 sq := fun g => cond (Nat.beq g 75) QONums (fun _ _ => none)
 rf := fun r => cond (Nat.beq r 3) (some (ROParse_3)) (none)
}
noncomputable def qkl : Code := Cd.fst (Cd.fst (Cd.snd (Cd.fst (Cd.snd (Cd.snd (Tryd.f48.body.getD .skip))))))
noncomputable def qj4 : Code := Cd.snd (Cd.fst (Cd.snd (Cd.fst (Cd.snd (Cd.snd (Tryd.f48.body.getD .skip))))))
theorem rlOParse_3_step (k : KT) (r : List LC) (e1 : Int) (e2 : Bool) (v1 : Nat) (v2 : LI) : qm9 (EOParse) 41 3 [10, 11] (qa3 Tryd.prog (EOParse) 40 qkl) (qa3 Tryd.prog (EOParse) 40 qj4) ([.int .u32 e1, .bool e2] :: r) ⟨[(2, .ptr 0 0 0), (3, .ptr 1 0 0), (4, .ptr 2 0 0)], [(0, ⟨.var [.nils], false⟩), (1, ⟨.var [.cl (.int .i64 0)], false⟩), (2, ⟨.var [.ref 100 0 v1 true 1], false⟩), (100, ⟨.ints .u32 v2, false⟩)]⟩ k = qkq (fun v1 v2 => qm9 (EOParse) 41 3 [10, 11] (qa3 Tryd.prog (EOParse) 40 qkl) (qa3 Tryd.prog (EOParse) 40 qj4) r ⟨[(2, .ptr 0 0 0), (3, .ptr 1 0 0), (4, .ptr 2 0 0)], [(0, ⟨.var [.nils], false⟩), (1, ⟨.var [.cl (.int .i64 0)], false⟩), (2, ⟨.var [.ref 100 0 v1 true 1], false⟩), (100, ⟨.ints .u32 v2, false⟩)]⟩ k) (fun y1 y2 => k .ret ⟨[(2, .ptr 0 0 0), (3, .ptr 1 0 0), (4, .ptr 2 0 0)], [(0, ⟨.var [.nils], false⟩), (1, ⟨.var [.cl (.int .i64 5)], false⟩), (2, ⟨.var [.ref 100 0 y1 true 1], false⟩), (100, ⟨.ints .u32 y2, false⟩)]⟩) (fun y1 y2 => k .normal ⟨[(2, .ptr 0 0 0), (3, .ptr 1 0 0), (4, .ptr 2 0 0)], [(0, ⟨.var [.nils], false⟩), (1, ⟨.var [.cl (.int .i64 0)], false⟩), (2, ⟨.var [.ref 100 0 y1 true 1], false⟩), (100, ⟨.ints .u32 y2, false⟩)]⟩) e1 e2 v1 v2 := by kernel_rfl
theorem qpq (k : KT) : ∀ (xs : List LC), List.all xs okONums = true -> ∀ (v1 : Nat) (v2 : LI), qm9 (EOParse) 41 3 [10, 11] (qa3 Tryd.prog (EOParse) 40 qkl) (qa3 Tryd.prog (EOParse) 40 qj4) xs ⟨[(2, .ptr 0 0 0), (3, .ptr 1 0 0), (4, .ptr 2 0 0)], [(0, ⟨.var [.nils], false⟩), (1, ⟨.var [.cl (.int .i64 0)], false⟩), (2, ⟨.var [.ref 100 0 v1 true 1], false⟩), (100, ⟨.ints .u32 v2, false⟩)]⟩ k = qga (fun y1 y2 => k .ret ⟨[(2, .ptr 0 0 0), (3, .ptr 1 0 0), (4, .ptr 2 0 0)], [(0, ⟨.var [.nils], false⟩), (1, ⟨.var [.cl (.int .i64 5)], false⟩), (2, ⟨.var [.ref 100 0 y1 true 1], false⟩), (100, ⟨.ints .u32 y2, false⟩)]⟩) (fun y1 y2 => k .normal ⟨[(2, .ptr 0 0 0), (3, .ptr 1 0 0), (4, .ptr 2 0 0)], [(0, ⟨.var [.nils], false⟩), (1, ⟨.var [.cl (.int .i64 0)], false⟩), (2, ⟨.var [.ref 100 0 y1 true 1], false⟩), (100, ⟨.ints .u32 y2, false⟩)]⟩) xs v1 v2
 | [], _ => by intros; rfl
 | x :: r, h => by
  intros
  simp only [List.all_cons, Bool.and_eq_true] at h
  obtain ⟨e1, e2, rfl⟩ := okONums_of h.1
  rw [rlOParse_3_step]
  have ih := qpq k r h.2
  simp only [ih]
  rfl
theorem ROParse_3_ok : ∀ (σ : St) (xs : List LC) (k : KT) (r : Out), ROParse_3 σ xs k = some r -> qm9 (EOParse) 41 3 [10, 11] (qa3 Tryd.prog (EOParse) 40 qkl) (qa3 Tryd.prog (EOParse) 40 qj4) xs σ k = some r := by
 intro σ xs k r h
 unfold ROParse_3 at h
 split at h
 ·replace h := qaa h
  obtain ⟨hx, h⟩ := h
  replace h := qaa h
  obtain ⟨hc, h⟩ := h
  simp only [Bool.and_eq_true, qbb, decide_eq_true_eq, Bool.not_eq_true'] at hc
  obtain ⟨⟨⟨⟨⟨⟨⟨⟨⟨⟨⟨⟨⟨⟨⟨⟨⟨⟨⟨rfl, rfl⟩, rfl⟩, rfl⟩, rfl⟩, rfl⟩, rfl⟩, rfl⟩, rfl⟩, rfl⟩, rfl⟩, rfl⟩, rfl⟩, rfl⟩, rfl⟩, rfl⟩, rfl⟩, rfl⟩, rfl⟩, rfl⟩ := hc
  rw [qae] at h
  exact (qpq k xs hx _ _ ).trans h
 ·cases h
theorem loopsOParse : ∀ c, Tryd.f48.body = some c -> qaq Tryd.prog (EOParse) 40 c := by
 intro c hc
 cases hc
 exact ⟨trivial, ⟨trivial, ⟨⟨trivial, ⟨⟨trivial, trivial, qag rfl⟩, qal _ (by kernel_rfl), rfl, rfl, rf_some rfl (ROParse_3_ok)⟩, qag rfl⟩, qal _ (by kernel_rfl), qag rfl⟩, qag rfl⟩, qag rfl⟩
noncomputable def gOParse (b : LI) : OO :=
 cond (qac b) (
 cond (List.all (qq3 (oidNums b)) okONums) (
 shut (qga
 (fun y1 y2 =>
 some (.ret [.cl (.sli .u32 []), .cl (.int .i64 5)] []))
 (fun y3 y4 =>
 let r5 : Bool := qn1 y4
 cond (!r5) (
 some (.ret [.cl (.sli .u32 []), .cl (.int .i64 5)] []))
 (
 some (.ret [.cl (.sli .u32 y4), .cl (.int .i64 0)] [])))) (qq3 (oidNums b)) 0 []) none) none
theorem gOParse_eq (b : LI) : qco Tryd.prog (EOParse) 40 false Tryd.f48 [.cl (.sli .u8 b)] [] = gOParse b := by kernel_rfl

abbrev zR2Parse0 := LI -> Nat -> Int -> Bool -> Int -> Int -> LI -> Int -> Bool -> LI -> Int -> LI -> Nat -> Int -> Bool -> LI -> OO
abbrev zR2Parse1 := LI -> Nat -> Int -> Bool -> Int -> Int -> LI -> Int -> Bool -> LI -> Int -> LI -> Nat -> Int -> Bool -> Int -> Int -> LI -> Int -> LI -> Nat -> Int -> Int -> Int -> Int -> LI -> Int -> LI -> Nat -> Int -> Bool -> Int -> LI -> OO
abbrev zR2Parse2 := LI -> Nat -> Int -> Bool -> Int -> Int -> LI -> Int -> Bool -> Int -> Int -> LI -> Int -> LI -> Nat -> Int -> Int -> Int -> Int -> LI -> Int -> LI -> Nat -> Int -> Bool -> Int -> LI -> OO
abbrev zR2Parse3 := LI -> Nat -> Int -> Bool -> Int -> Int -> LI -> Int -> LI -> OO
noncomputable def qgk (again : LI -> Nat -> Int -> Bool -> Int -> LI -> OO) (k0 : zR2Parse0) (k1 : zR2Parse1) (k2 : zR2Parse2) (k3 : zR2Parse3) (v1 : LI) (v2 : Nat) (v3 : Int) (v4 : Bool) (v5 : Int) (v6 : LI) : OO :=
 cond (decide (v5 < ((v1.length : Nat) : Int))) (
 cond (v4) (
 cond (decide ((0 : Int) <= v5)) (
 cond (decide (v5 < ((v1.length : Nat) : Int))) (
 Option.bind (v1[(Int.toNat v5)]?) fun (e1 : Int) =>
 cond (decide (e1 = 128)) (
 k0 v1 v2 v3 v4 v5 v5 v1 ((v1.length : Nat) : Int) v4 v1 v5 v1 (Int.toNat v5) e1 (decide (e1 = 128)) v6)
 (
 let x2 : Int := IntKind.u64.wrap (v3 * 128)
 cond (decide ((0 : Int) <= v5)) (
 cond (decide (v5 < ((v1.length : Nat) : Int))) (
 Option.bind (v1[(Int.toNat v5)]?) fun (e3 : Int) =>
 let x4 : Int := Int.tmod e3 128
 let x5 : Int := IntKind.u64.wrap x4
 let x6 : Int := IntKind.u64.wrap (x2 + x5)
 cond (decide ((0 : Int) <= v5)) (
 cond (decide (v5 < ((v1.length : Nat) : Int))) (
 Option.bind (v1[(Int.toNat v5)]?) fun (e7 : Int) =>
 cond (decide ((4294967295 : Int) < x6)) (
 k1 v1 v2 x6 (decide (e7 < 128)) v5 v5 v1 ((v1.length : Nat) : Int) v4 v1 v5 v1 (Int.toNat v5) e1 (decide (e1 = 128)) v3 x2 v1 v5 v1 (Int.toNat v5) e3 x4 x5 x6 v1 v5 v1 (Int.toNat v5) e7 (decide (e7 < 128)) x6 v6)
 (
 cond (!(decide (e7 < 128))) (
 let x8 : Int := IntKind.i64.wrap (v5 + 1)
 again v1 v2 x6 (decide (e7 < 128)) x8 v6)
 (
 cond (decide (((v2 : Nat) : Int) = 0)) (
 cond (u32Ok x6) (
 let r9 : LI := qe0 x6
 let l10 : LI := v6 ++ r9
 cond (decide (((l10.length : Nat) : Int) * 4 <= LIM)) (
 cond (decide (((l10.length : Nat) : Int) <= LIM)) (
 let x11 : Int := IntKind.i64.wrap (v5 + 1)
 again v1 l10.length 0 (decide (e7 < 128)) x11 l10) none) none) none)
 (
 let x12 : Int := IntKind.u32.wrap x6
 let l13 : LI := v6 ++ [x12]
 cond (decide (((l13.length : Nat) : Int) * 4 <= LIM)) (
 cond (decide (((l13.length : Nat) : Int) <= LIM)) (
 let x14 : Int := IntKind.i64.wrap (v5 + 1)
 again v1 l13.length 0 (decide (e7 < 128)) x14 l13) none) none)))) none) none) none) none)) none) none)
 (
 let x15 : Int := IntKind.u64.wrap (v3 * 128)
 cond (decide ((0 : Int) <= v5)) (
 cond (decide (v5 < ((v1.length : Nat) : Int))) (
 Option.bind (v1[(Int.toNat v5)]?) fun (e16 : Int) =>
 let x17 : Int := Int.tmod e16 128
 let x18 : Int := IntKind.u64.wrap x17
 let x19 : Int := IntKind.u64.wrap (x15 + x18)
 cond (decide ((0 : Int) <= v5)) (
 cond (decide (v5 < ((v1.length : Nat) : Int))) (
 Option.bind (v1[(Int.toNat v5)]?) fun (e20 : Int) =>
 cond (decide ((4294967295 : Int) < x19)) (
 k2 v1 v2 x19 (decide (e20 < 128)) v5 v5 v1 ((v1.length : Nat) : Int) v4 v3 x15 v1 v5 v1 (Int.toNat v5) e16 x17 x18 x19 v1 v5 v1 (Int.toNat v5) e20 (decide (e20 < 128)) x19 v6)
 (
 cond (!(decide (e20 < 128))) (
 let x21 : Int := IntKind.i64.wrap (v5 + 1)
 again v1 v2 x19 (decide (e20 < 128)) x21 v6)
 (
 cond (decide (((v2 : Nat) : Int) = 0)) (
 cond (u32Ok x19) (
 let r22 : LI := qe0 x19
 let l23 : LI := v6 ++ r22
 cond (decide (((l23.length : Nat) : Int) * 4 <= LIM)) (
 cond (decide (((l23.length : Nat) : Int) <= LIM)) (
 let x24 : Int := IntKind.i64.wrap (v5 + 1)
 again v1 l23.length 0 (decide (e20 < 128)) x24 l23) none) none) none)
 (
 let x25 : Int := IntKind.u32.wrap x19
 let l26 : LI := v6 ++ [x25]
 cond (decide (((l26.length : Nat) : Int) * 4 <= LIM)) (
 cond (decide (((l26.length : Nat) : Int) <= LIM)) (
 let x27 : Int := IntKind.i64.wrap (v5 + 1)
 again v1 l26.length 0 (decide (e20 < 128)) x27 l26) none) none)))) none) none) none) none))
 (
 k3 v1 v2 v3 v4 v5 v5 v1 ((v1.length : Nat) : Int) v6)
noncomputable def qc5 (k0 : zR2Parse0) (k1 : zR2Parse1) (k2 : zR2Parse2) (k3 : zR2Parse3) : Nat -> LI -> Nat -> Int -> Bool -> Int -> LI -> OO
 | 0 => fun _ _ _ _ _ _ => none
 | n + 1 => qgk (qc5 k0 k1 k2 k3 n) k0 k1 k2 k3
noncomputable def qg1 (k : KT) : zR2Parse0 := fun y1 y2 y3 y4 y5 y6 y7 y8 y9 y10 y11 y12 y13 y14 y15 y16 => k .ret ⟨[(0, qS y1), (2, .ref 66 0 0 true 1), (3, qI 5), (4, .ref 68 0 y2 true 1), (5, qW y3), (6, qB y4), (7, qI y5), (8, qI y6), (9, qS y7), (10, qI y8), (11, qB true), (14, qB y9), (15, qB true), (16, qS y10), (17, qI y11), (18, .cl (.vp (.sli .u8 y12) y13 0)), (19, qU y14), (20, qB y15), (21, qB true)], [(66, ⟨.ints .u32 [], false⟩), (68, ⟨.ints .u32 y16, false⟩)]⟩
noncomputable def qgd (k : KT) : zR2Parse1 := fun y1 y2 y3 y4 y5 y6 y7 y8 y9 y10 y11 y12 y13 y14 y15 y16 y17 y18 y19 y20 y21 y22 y23 y24 y25 y26 y27 y28 y29 y30 y31 y32 y33 => k .ret ⟨[(0, qS y1), (2, .ref 66 0 0 true 1), (3, qI 5), (4, .ref 68 0 y2 true 1), (5, qW y3), (6, qB y4), (7, qI y5), (8, qI y6), (9, qS y7), (10, qI y8), (11, qB true), (14, qB y9), (15, qB true), (16, qS y10), (17, qI y11), (18, .cl (.vp (.sli .u8 y12) y13 0)), (19, qU y14), (20, qB y15), (21, qB false), (22, qW y16), (23, qW y17), (24, qS y18), (25, qI y19), (26, .cl (.vp (.sli .u8 y20) y21 0)), (27, qU y22), (28, qU y23), (29, qW y24), (30, qW y25), (31, qS y26), (32, qI y27), (33, .cl (.vp (.sli .u8 y28) y29 0)), (34, qU y30), (35, qB y31), (36, qW y32), (37, qB true)], [(66, ⟨.ints .u32 [], false⟩), (68, ⟨.ints .u32 y33, false⟩)]⟩
noncomputable def qg3 (k : KT) : zR2Parse2 := fun y1 y2 y3 y4 y5 y6 y7 y8 y9 y10 y11 y12 y13 y14 y15 y16 y17 y18 y19 y20 y21 y22 y23 y24 y25 y26 y27 => k .ret ⟨[(0, qS y1), (2, .ref 66 0 0 true 1), (3, qI 5), (4, .ref 68 0 y2 true 1), (5, qW y3), (6, qB y4), (7, qI y5), (8, qI y6), (9, qS y7), (10, qI y8), (11, qB true), (14, qB y9), (15, qB false), (16, .tup []), (17, .tup []), (18, .tup []), (19, .tup []), (20, .tup []), (21, qB false), (22, qW y10), (23, qW y11), (24, qS y12), (25, qI y13), (26, .cl (.vp (.sli .u8 y14) y15 0)), (27, qU y16), (28, qU y17), (29, qW y18), (30, qW y19), (31, qS y20), (32, qI y21), (33, .cl (.vp (.sli .u8 y22) y23 0)), (34, qU y24), (35, qB y25), (36, qW y26), (37, qB true)], [(66, ⟨.ints .u32 [], false⟩), (68, ⟨.ints .u32 y27, false⟩)]⟩
noncomputable def qgn (k : KT) : zR2Parse3 := fun y1 y2 y3 y4 y5 y6 y7 y8 y9 => k (.exit 0) ⟨[(0, qS y1), (4, .ref 68 0 y2 true 1), (5, qW y3), (6, qB y4), (7, qI y5), (8, qI y6), (9, qS y7), (10, qI y8), (11, qB false)], [(68, ⟨.ints .u32 y9, false⟩)]⟩
noncomputable def LR2Parse_5 : St -> (KT) -> OO := fun σ k => match σ with
 | ⟨[(q1, .cl (.sli .u8 v1)), (q2, .ref q3 q4 v2 true q5), (q6, .cl (.int .u64 v3)), (q7, .cl (.bool v4)), (q8, .cl (.int .i64 v5))], [(q9, ⟨.ints .u32 v6, false⟩)]⟩ => cond (Nat.beq q1 0 && Nat.beq q2 4 && Nat.beq q3 68 && Nat.beq q4 0 && Nat.beq q5 1 && Nat.beq q6 5 && Nat.beq q7 6 && Nat.beq q8 7 && Nat.beq q9 68) (shut (qc5 (qg1 k) (qgd k) (qg3 k) (qgn k) FUEL) v1 v2 v3 v4 v5 v6) none
 | _ => none
noncomputable def ER2Parse : Env := {
 orc := fun g => cond (Nat.beq g 68) SR2First (cond (Nat.beq g 69) SR2Fit (fun _ _ => Tree.fail))
 pre := fun g => cond (Nat.beq g 68) preR2First (cond (Nat.beq g 69) preR2Fit (fun _ _ => true))
 live := fun r => cond (Nat.beq r 5) ([0, 4, 5, 6, 7]) ([])
 ren := fun r => cond (Nat.beq r 5) ([(110, 68), (115, 68)]) ([])
 glob := qca
 nt := 60
 lp := fun r => cond (Nat.beq r 5) (some (LR2Parse_5)) (none)
}
noncomputable def qgt : Code := (Cd.fst (Cd.fst (Cd.snd (Cd.fst (Cd.snd (Cd.snd (Cd.snd (Cd.snd (Tryd.f54.body.getD .skip)))))))))
theorem qq2 (k : KT) (n : Nat) (v1 : LI) (v2 : Nat) (v3 : Int) (v4 : Bool) (v5 : Int) (v6 : LI) : qbi (n + 1) (qa3 Tryd.prog (ER2Parse) 40 qgt) (head (ER2Parse) 5) ⟨[(0, qS v1), (4, .ref 68 0 v2 true 1), (5, qW v3), (6, qB v4), (7, qI v5)], [(68, ⟨.ints .u32 v6, false⟩)]⟩ k = qgk (fun v1 v2 v3 v4 v5 v6 => qbi n (qa3 Tryd.prog (ER2Parse) 40 qgt) (head (ER2Parse) 5) ⟨[(0, qS v1), (4, .ref 68 0 v2 true 1), (5, qW v3), (6, qB v4), (7, qI v5)], [(68, ⟨.ints .u32 v6, false⟩)]⟩ k) (qg1 k) (qgd k) (qg3 k) (qgn k) v1 v2 v3 v4 v5 v6 := by kernel_rfl
theorem qnn (k : KT) : ∀ (n : Nat), ∀ (v1 : LI) (v2 : Nat) (v3 : Int) (v4 : Bool) (v5 : Int) (v6 : LI), qbi n (qa3 Tryd.prog (ER2Parse) 40 qgt) (head (ER2Parse) 5) ⟨[(0, qS v1), (4, .ref 68 0 v2 true 1), (5, qW v3), (6, qB v4), (7, qI v5)], [(68, ⟨.ints .u32 v6, false⟩)]⟩ k = qc5 (qg1 k) (qgd k) (qg3 k) (qgn k) n v1 v2 v3 v4 v5 v6
 | 0 => by intros; rfl
 | n + 1 => by
  intros
  rw [qq2]
  have ih := qnn k n
  simp only [qc5, ih]
theorem LR2Parse_5_ok : ∀ (σ : St) (k : KT) (r : Out), LR2Parse_5 σ k = some r -> ∃ n, qbi n (qa3 Tryd.prog (ER2Parse) 40 qgt) (head (ER2Parse) 5) σ k = some r := by
 intro σ k r h
 unfold LR2Parse_5 at h
 split at h
 ·replace h := qaa h
  obtain ⟨hc, h⟩ := h
  simp only [Bool.and_eq_true, qbb, decide_eq_true_eq, Bool.not_eq_true'] at hc
  obtain ⟨⟨⟨⟨⟨⟨⟨⟨rfl, rfl⟩, rfl⟩, rfl⟩, rfl⟩, rfl⟩, rfl⟩, rfl⟩, rfl⟩ := hc
  rw [qae] at h
  exact ⟨FUEL, (qnn k FUEL _ _ _ _ _ _ ).trans h⟩
 ·cases h
theorem loopsR2Parse : ∀ c, Tryd.f54.body = some c -> qaq Tryd.prog (ER2Parse) 40 c := by
 intro c hc
 cases hc
 exact ⟨trivial, ⟨trivial, ⟨trivial, ⟨trivial, ⟨⟨trivial, ⟨qal _ (by kernel_rfl), qcc rfl (LR2Parse_5_ok)⟩, qag rfl⟩, qal _ (by kernel_rfl), qag rfl⟩, qag rfl⟩, qag rfl⟩, qag rfl⟩, qag rfl⟩
noncomputable def gR2Parse (b : LI) : OO :=
 shut (qc5
 (fun y1 y2 y3 y4 y5 y6 y7 y8 y9 y10 y11 y12 y13 y14 y15 y16 =>
 some (.ret [.cl (.sli .u32 []), .cl (.int .i64 5)] []))
 (fun y17 y18 y19 y20 y21 y22 y23 y24 y25 y26 y27 y28 y29 y30 y31 y32 y33 y34 y35 y36 y37 y38 y39 y40 y41 y42 y43 y44 y45 y46 y47 y48 y49 =>
 some (.ret [.cl (.sli .u32 []), .cl (.int .i64 5)] []))
 (fun y50 y51 y52 y53 y54 y55 y56 y57 y58 y59 y60 y61 y62 y63 y64 y65 y66 y67 y68 y69 y70 y71 y72 y73 y74 y75 y76 =>
 some (.ret [.cl (.sli .u32 []), .cl (.int .i64 5)] []))
 (fun y77 y78 y79 y80 y81 y82 y83 y84 y85 =>
 cond (!y80) (
 some (.ret [.cl (.sli .u32 []), .cl (.int .i64 5)] []))
 (
 let r86 : Bool := qn1 y85
 cond (!r86) (
 some (.ret [.cl (.sli .u32 []), .cl (.int .i64 5)] []))
 (
 some (.ret [.cl (.sli .u32 y85), .cl (.int .i64 0)] []))))
 FUEL) b 0 0 true 0 []
theorem gR2Parse_eq (b : LI) : qco Tryd.prog (ER2Parse) 40 false Tryd.f54 [.cl (.sli .u8 b)] [] = gR2Parse b := by kernel_rfl

abbrev zR1Same0 := LI -> LI -> Int -> Int -> LI -> Int -> LI -> Int -> LI -> Nat -> Int -> LI -> Int -> LI -> Nat -> Int -> OO
abbrev zR1Same1 := LI -> LI -> Int -> Int -> LI -> Int -> OO
noncomputable def qj3 (again : LI -> LI -> Int -> OO) (k0 : zR1Same0) (k1 : zR1Same1) (v1 v2 : LI) (v3 : Int) : OO :=
 cond (decide (v3 < ((v1.length : Nat) : Int))) (
 cond (decide ((0 : Int) <= v3)) (
 cond (decide (v3 < ((v1.length : Nat) : Int))) (
 Option.bind (v1[(Int.toNat v3)]?) fun (e1 : Int) =>
 cond (decide ((0 : Int) <= v3)) (
 cond (decide (v3 < ((v2.length : Nat) : Int))) (
 Option.bind (v2[(Int.toNat v3)]?) fun (e2 : Int) =>
 cond (!decide (e1 = e2)) (
 k0 v1 v2 v3 v3 v1 ((v1.length : Nat) : Int) v1 v3 v1 (Int.toNat v3) e1 v2 v3 v2 (Int.toNat v3) e2)
 (
 let x3 : Int := IntKind.i64.wrap (v3 + 1)
 again v1 v2 x3)) none) none) none) none)
 (
 k1 v1 v2 v3 v3 v1 ((v1.length : Nat) : Int))
noncomputable def qe3 (k0 : zR1Same0) (k1 : zR1Same1) : Nat -> LI -> LI -> Int -> OO
 | 0 => fun _ _ _ => none
 | n + 1 => qj3 (qe3 k0 k1 n) k0 k1
noncomputable def qi4 (k : KT) : zR1Same0 := fun y1 y2 y3 y4 y5 y6 y7 y8 y9 y10 y11 y12 y13 y14 y15 y16 => k .ret ⟨[(0, qS y1), (1, qS y2), (4, qB false), (5, qI y3), (11, qI y4), (12, qS y5), (13, qI y6), (14, qB true), (17, qS y7), (18, qI y8), (19, .cl (.vp (.sli .u8 y9) y10 0)), (20, qU y11), (21, qS y12), (22, qI y13), (23, .cl (.vp (.sli .u8 y14) y15 0)), (24, qU y16), (25, qB true)], []⟩
noncomputable def qi1 (k : KT) : zR1Same1 := fun y1 y2 y3 y4 y5 y6 => k (.exit 0) ⟨[(0, qS y1), (1, qS y2), (5, qI y3), (11, qI y4), (12, qS y5), (13, qI y6), (14, qB false)], []⟩
noncomputable def LR1Same_4 : St -> (KT) -> OO := fun σ k => match σ with
 | ⟨[(q1, .cl (.sli .u8 v1)), (q2, .cl (.sli .u8 v2)), (q3, .cl (.int .i64 v3))], []⟩ => cond (Nat.beq q1 0 && Nat.beq q2 1 && Nat.beq q3 5) (shut (qe3 (qi4 k) (qi1 k) FUEL) v1 v2 v3) none
 | _ => none
noncomputable def ER1Same : Env := {
 orc := fun _ => fun _ _ => Tree.fail
 pre := fun _ => fun _ _ => true
 live := fun r => cond (Nat.beq r 4) ([0, 1, 5]) ([])
 glob := qca
 nt := 26
 lp := fun r => cond (Nat.beq r 4) (some (LR1Same_4)) (none)
}
noncomputable def qkj : Code := (Cd.fst (Cd.fst (Cd.snd (Cd.fst (Cd.snd (Cd.snd (Tryd.f15.body.getD .skip)))))))
theorem lpR1Same_4_step (k : KT) (n : Nat) (v1 v2 : LI) (v3 : Int) : qbi (n + 1) (qa3 Tryd.prog (ER1Same) 40 qkj) (head (ER1Same) 4) ⟨[(0, qS v1), (1, qS v2), (5, qI v3)], []⟩ k = qj3 (fun v1 v2 v3 => qbi n (qa3 Tryd.prog (ER1Same) 40 qkj) (head (ER1Same) 4) ⟨[(0, qS v1), (1, qS v2), (5, qI v3)], []⟩ k) (qi4 k) (qi1 k) v1 v2 v3 := by kernel_rfl
theorem qpv (k : KT) : ∀ (n : Nat), ∀ (v1 v2 : LI) (v3 : Int), qbi n (qa3 Tryd.prog (ER1Same) 40 qkj) (head (ER1Same) 4) ⟨[(0, qS v1), (1, qS v2), (5, qI v3)], []⟩ k = qe3 (qi4 k) (qi1 k) n v1 v2 v3
 | 0 => by intros; rfl
 | n + 1 => by
  intros
  rw [lpR1Same_4_step]
  have ih := qpv k n
  simp only [qe3, ih]
theorem LR1Same_4_ok : ∀ (σ : St) (k : KT) (r : Out), LR1Same_4 σ k = some r -> ∃ n, qbi n (qa3 Tryd.prog (ER1Same) 40 qkj) (head (ER1Same) 4) σ k = some r := by
 intro σ k r h
 unfold LR1Same_4 at h
 split at h
 ·replace h := qaa h
  obtain ⟨hc, h⟩ := h
  simp only [Bool.and_eq_true, qbb, decide_eq_true_eq, Bool.not_eq_true'] at hc
  obtain ⟨⟨rfl, rfl⟩, rfl⟩ := hc
  rw [qae] at h
  exact ⟨FUEL, (qpv k FUEL _ _ _ ).trans h⟩
 ·cases h
theorem loopsR1Same : ∀ c, Tryd.f15.body = some c -> qaq Tryd.prog (ER1Same) 40 c := by
 intro c hc
 cases hc
 exact ⟨trivial, ⟨qal _ (by kernel_rfl), ⟨⟨trivial, ⟨qal _ (by kernel_rfl), qcc rfl (LR1Same_4_ok)⟩, qag rfl⟩, ⟨trivial, trivial, qag rfl⟩, qag rfl⟩, qag rfl⟩, qag rfl⟩
noncomputable def gR1Same (a : LI) (b : LI) : OO :=
 cond (!decide (((a.length : Nat) : Int) = ((b.length : Nat) : Int))) (
 some (.ret [.cl (.bool false)] []))
 (
 shut (qe3
 (fun y1 y2 y3 y4 y5 y6 y7 y8 y9 y10 y11 y12 y13 y14 y15 y16 =>
 some (.ret [.cl (.bool false)] []))
 (fun y17 y18 y19 y20 y21 y22 =>
 some (.ret [.cl (.bool true)] []))
 FUEL) a b 0)
theorem gR1Same_eq (a : LI) (b : LI) : qco Tryd.prog (ER1Same) 40 false Tryd.f15 [.cl (.sli .u8 a), .cl (.sli .u8 b)] [] = gR1Same a b := by kernel_rfl

noncomputable def ESClone : Env := {
 orc := fun _ => fun _ _ => Tree.fail
 pre := fun _ => fun _ _ => true
 glob := qca
 nt := 8
}
theorem loopsSClone : ∀ c, Tryd.f35.body = some c -> qaq Tryd.prog (ESClone) 40 c := by
 intro c hc
 cases hc
 exact qal _ (by kernel_rfl)
noncomputable def gSClone (b : LI) : OO :=
 cond (Nat.beq b.length 0) (
 bothK (
 some (.ret [.cl (.sli .u8 [])] []))
 (
 let l1 : LI := [] ++ b
 cond (decide (((l1.length : Nat) : Int) * 1 <= LIM)) (
 cond (decide (((l1.length : Nat) : Int) <= LIM)) (
 some (.ret [.cl (.sli .u8 l1)] [])) none) none))
 (
 let l2 : LI := [] ++ b
 cond (decide (((l2.length : Nat) : Int) * 1 <= LIM)) (
 cond (decide (((l2.length : Nat) : Int) <= LIM)) (
 some (.ret [.cl (.sli .u8 l2)] [])) none) none)
theorem gSClone_eq (b : LI) : qco Tryd.prog (ESClone) 40 false Tryd.f35 [.cl (.sli .u8 b)] [] = gSClone b := by kernel_rfl

abbrev zR4Less0 := LI -> LI -> Bool -> Int -> Int -> LI -> Int -> Bool -> Int -> LI -> Int -> Bool -> LI -> Int -> LI -> Nat -> Int -> LI -> Int -> LI -> Nat -> Int -> LI -> Int -> LI -> Nat -> Int -> LI -> Int -> LI -> Nat -> Int -> Bool -> OO
abbrev zR4Less1 := LI -> LI -> Int -> Int -> LI -> Int -> Bool -> Int -> LI -> Int -> Bool -> OO
abbrev zR4Less2 := LI -> LI -> Int -> Int -> LI -> Int -> Bool -> OO
noncomputable def qkt (again : LI -> LI -> Int -> OO) (k0 : zR4Less0) (k1 : zR4Less1) (k2 : zR4Less2) (v1 v2 : LI) (v3 : Int) : OO :=
 cond (decide (v3 < ((v1.length : Nat) : Int))) (
 cond (decide (v3 < ((v2.length : Nat) : Int))) (
 cond (decide ((0 : Int) <= v3)) (
 cond (decide (v3 < ((v1.length : Nat) : Int))) (
 Option.bind (v1[(Int.toNat v3)]?) fun (e1 : Int) =>
 cond (decide ((0 : Int) <= v3)) (
 cond (decide (v3 < ((v2.length : Nat) : Int))) (
 Option.bind (v2[(Int.toNat v3)]?) fun (e2 : Int) =>
 cond (!decide (e1 = e2)) (
 cond (decide ((0 : Int) <= v3)) (
 cond (decide (v3 < ((v1.length : Nat) : Int))) (
 Option.bind (v1[(Int.toNat v3)]?) fun (e3 : Int) =>
 cond (decide ((0 : Int) <= v3)) (
 cond (decide (v3 < ((v2.length : Nat) : Int))) (
 Option.bind (v2[(Int.toNat v3)]?) fun (e4 : Int) =>
 k0 v1 v2 (decide (e3 < e4)) v3 v3 v1 ((v1.length : Nat) : Int) (decide (v3 < ((v1.length : Nat) : Int))) v3 v2 ((v2.length : Nat) : Int) (decide (v3 < ((v2.length : Nat) : Int))) v1 v3 v1 (Int.toNat v3) e1 v2 v3 v2 (Int.toNat v3) e2 v1 v3 v1 (Int.toNat v3) e3 v2 v3 v2 (Int.toNat v3) e4 (decide (e3 < e4))) none) none) none) none)
 (
 let x5 : Int := IntKind.i64.wrap (v3 + 1)
 again v1 v2 x5)) none) none) none) none)
 (
 k1 v1 v2 v3 v3 v1 ((v1.length : Nat) : Int) (decide (v3 < ((v1.length : Nat) : Int))) v3 v2 ((v2.length : Nat) : Int) (decide (v3 < ((v2.length : Nat) : Int)))))
 (
 k2 v1 v2 v3 v3 v1 ((v1.length : Nat) : Int) (decide (v3 < ((v1.length : Nat) : Int))))
noncomputable def qeu (k0 : zR4Less0) (k1 : zR4Less1) (k2 : zR4Less2) : Nat -> LI -> LI -> Int -> OO
 | 0 => fun _ _ _ => none
 | n + 1 => qkt (qeu k0 k1 k2 n) k0 k1 k2
noncomputable def qig (k : KT) : zR4Less0 := fun y1 y2 y3 y4 y5 y6 y7 y8 y9 y10 y11 y12 y13 y14 y15 y16 y17 y18 y19 y20 y21 y22 y23 y24 y25 y26 y27 y28 y29 y30 y31 y32 y33 => k .ret ⟨[(0, qS y1), (1, qS y2), (4, qB y3), (5, qI y4), (6, qI y5), (7, qS y6), (8, qI y7), (9, qB y8), (10, qB true), (11, qI y9), (12, qS y10), (13, qI y11), (14, qB y12), (15, qB true), (18, qS y13), (19, qI y14), (20, .cl (.vp (.sli .u8 y15) y16 0)), (21, qU y17), (22, qS y18), (23, qI y19), (24, .cl (.vp (.sli .u8 y20) y21 0)), (25, qU y22), (26, qB true), (27, qS y23), (28, qI y24), (29, .cl (.vp (.sli .u8 y25) y26 0)), (30, qU y27), (31, qS y28), (32, qI y29), (33, .cl (.vp (.sli .u8 y30) y31 0)), (34, qU y32), (35, qB y33)], []⟩
noncomputable def qjl (k : KT) : zR4Less1 := fun y1 y2 y3 y4 y5 y6 y7 y8 y9 y10 y11 => k (.exit 0) ⟨[(0, qS y1), (1, qS y2), (5, qI y3), (6, qI y4), (7, qS y5), (8, qI y6), (9, qB y7), (10, qB true), (11, qI y8), (12, qS y9), (13, qI y10), (14, qB y11), (15, qB false)], []⟩
noncomputable def qiv (k : KT) : zR4Less2 := fun y1 y2 y3 y4 y5 y6 y7 => k (.exit 0) ⟨[(0, qS y1), (1, qS y2), (5, qI y3), (6, qI y4), (7, qS y5), (8, qI y6), (9, qB y7), (10, qB false), (11, .tup []), (12, .tup []), (13, .tup []), (14, .tup []), (15, qB false)], []⟩
noncomputable def LR4Less_2 : St -> (KT) -> OO := fun σ k => match σ with
 | ⟨[(q1, .cl (.sli .u8 v1)), (q2, .cl (.sli .u8 v2)), (q3, .cl (.int .i64 v3))], []⟩ => cond (Nat.beq q1 0 && Nat.beq q2 1 && Nat.beq q3 5) (shut (qeu (qig k) (qjl k) (qiv k) FUEL) v1 v2 v3) none
 | _ => none
noncomputable def ER4Less : Env := {
 orc := fun _ => fun _ _ => Tree.fail
 pre := fun _ => fun _ _ => true
 live := fun r => cond (Nat.beq r 2) ([0, 1, 5]) ([])
 glob := qca
 nt := 41
 lp := fun r => cond (Nat.beq r 2) (some (LR4Less_2)) (none)
}
noncomputable def qkc : Code := (Cd.fst (Cd.fst (Cd.snd (Cd.fst (Cd.snd (Tryd.f57.body.getD .skip))))))
theorem lpR4Less_2_step (k : KT) (n : Nat) (v1 v2 : LI) (v3 : Int) : qbi (n + 1) (qa3 Tryd.prog (ER4Less) 40 qkc) (head (ER4Less) 2) ⟨[(0, qS v1), (1, qS v2), (5, qI v3)], []⟩ k = qkt (fun v1 v2 v3 => qbi n (qa3 Tryd.prog (ER4Less) 40 qkc) (head (ER4Less) 2) ⟨[(0, qS v1), (1, qS v2), (5, qI v3)], []⟩ k) (qig k) (qjl k) (qiv k) v1 v2 v3 := by kernel_rfl
theorem qp8 (k : KT) : ∀ (n : Nat), ∀ (v1 v2 : LI) (v3 : Int), qbi n (qa3 Tryd.prog (ER4Less) 40 qkc) (head (ER4Less) 2) ⟨[(0, qS v1), (1, qS v2), (5, qI v3)], []⟩ k = qeu (qig k) (qjl k) (qiv k) n v1 v2 v3
 | 0 => by intros; rfl
 | n + 1 => by
  intros
  rw [lpR4Less_2_step]
  have ih := qp8 k n
  simp only [qeu, ih]
theorem LR4Less_2_ok : ∀ (σ : St) (k : KT) (r : Out), LR4Less_2 σ k = some r -> ∃ n, qbi n (qa3 Tryd.prog (ER4Less) 40 qkc) (head (ER4Less) 2) σ k = some r := by
 intro σ k r h
 unfold LR4Less_2 at h
 split at h
 ·replace h := qaa h
  obtain ⟨hc, h⟩ := h
  simp only [Bool.and_eq_true, qbb, decide_eq_true_eq, Bool.not_eq_true'] at hc
  obtain ⟨⟨rfl, rfl⟩, rfl⟩ := hc
  rw [qae] at h
  exact ⟨FUEL, (qp8 k FUEL _ _ _ ).trans h⟩
 ·cases h
theorem loopsR4Less : ∀ c, Tryd.f57.body = some c -> qaq Tryd.prog (ER4Less) 40 c := by
 intro c hc
 cases hc
 exact ⟨trivial, ⟨⟨trivial, ⟨qal _ (by kernel_rfl), qcc rfl (LR4Less_2_ok)⟩, qag rfl⟩, ⟨trivial, trivial, qag rfl⟩, qag rfl⟩, qag rfl⟩
noncomputable def gR4Less (a : LI) (b : LI) : OO :=
 shut (qeu
 (fun y1 y2 y3 y4 y5 y6 y7 y8 y9 y10 y11 y12 y13 y14 y15 y16 y17 y18 y19 y20 y21 y22 y23 y24 y25 y26 y27 y28 y29 y30 y31 y32 y33 =>
 some (.ret [.cl (.bool y3)] []))
 (fun y34 y35 y36 y37 y38 y39 y40 y41 y42 y43 y44 =>
 some (.ret [.cl (.bool (decide (((y34.length : Nat) : Int) < ((y35.length : Nat) : Int))))] []))
 (fun y45 y46 y47 y48 y49 y50 y51 =>
 some (.ret [.cl (.bool (decide (((y45.length : Nat) : Int) < ((y46.length : Nat) : Int))))] []))
 FUEL) a b 0
theorem gR4Less_eq (a : LI) (b : LI) : qco Tryd.prog (ER4Less) 40 false Tryd.f57 [.cl (.sli .u8 a), .cl (.sli .u8 b)] [] = gR4Less a b := by kernel_rfl

noncomputable def EUWord : Env := {
 orc := fun _ => fun _ _ => Tree.fail
 pre := fun _ => fun _ _ => true
 glob := qca
 nt := 71
}
theorem loopsUWord : ∀ c, Tryd.f64.body = some c -> qaq Tryd.prog (EUWord) 40 c := by
 intro c hc
 cases hc
 exact qal _ (by kernel_rfl)
noncomputable def gUWord (b : LI) : OO :=
 cond (decide ((0 : Int) < ((b.length : Nat) : Int))) (
 Option.bind (b[0]?) fun (e1 : Int) =>
 let x2 : Int := IntKind.u64.wrap e1
 cond (decide ((1 : Int) < ((b.length : Nat) : Int))) (
 Option.bind (b[1]?) fun (e3 : Int) =>
 let x4 : Int := IntKind.u64.wrap e3
 let x5 : Int := IntKind.u64.wrap (x4 * 2 ^ 8)
 let x6 : Int := IntKind.u64.wrap ((BitVec.ofInt 64 x2 ||| BitVec.ofInt 64 x5).toNat)
 cond (decide ((2 : Int) < ((b.length : Nat) : Int))) (
 Option.bind (b[2]?) fun (e7 : Int) =>
 let x8 : Int := IntKind.u64.wrap e7
 let x9 : Int := IntKind.u64.wrap (x8 * 2 ^ 16)
 let x10 : Int := IntKind.u64.wrap ((BitVec.ofInt 64 x6 ||| BitVec.ofInt 64 x9).toNat)
 cond (decide ((3 : Int) < ((b.length : Nat) : Int))) (
 Option.bind (b[3]?) fun (e11 : Int) =>
 let x12 : Int := IntKind.u64.wrap e11
 let x13 : Int := IntKind.u64.wrap (x12 * 2 ^ 24)
 let x14 : Int := IntKind.u64.wrap ((BitVec.ofInt 64 x10 ||| BitVec.ofInt 64 x13).toNat)
 cond (decide ((4 : Int) < ((b.length : Nat) : Int))) (
 Option.bind (b[4]?) fun (e15 : Int) =>
 let x16 : Int := IntKind.u64.wrap e15
 let x17 : Int := IntKind.u64.wrap (x16 * 2 ^ 32)
 let x18 : Int := IntKind.u64.wrap ((BitVec.ofInt 64 x14 ||| BitVec.ofInt 64 x17).toNat)
 cond (decide ((5 : Int) < ((b.length : Nat) : Int))) (
 Option.bind (b[5]?) fun (e19 : Int) =>
 let x20 : Int := IntKind.u64.wrap e19
 let x21 : Int := IntKind.u64.wrap (x20 * 2 ^ 40)
 let x22 : Int := IntKind.u64.wrap ((BitVec.ofInt 64 x18 ||| BitVec.ofInt 64 x21).toNat)
 cond (decide ((6 : Int) < ((b.length : Nat) : Int))) (
 Option.bind (b[6]?) fun (e23 : Int) =>
 let x24 : Int := IntKind.u64.wrap e23
 let x25 : Int := IntKind.u64.wrap (x24 * 2 ^ 48)
 let x26 : Int := IntKind.u64.wrap ((BitVec.ofInt 64 x22 ||| BitVec.ofInt 64 x25).toNat)
 cond (decide ((7 : Int) < ((b.length : Nat) : Int))) (
 Option.bind (b[7]?) fun (e27 : Int) =>
 let x28 : Int := IntKind.u64.wrap e27
 let x29 : Int := IntKind.u64.wrap (x28 * 2 ^ 56)
 let x30 : Int := IntKind.u64.wrap ((BitVec.ofInt 64 x26 ||| BitVec.ofInt 64 x29).toNat)
 some (.ret [.cl (.int .u64 x30)] [])) none) none) none) none) none) none) none) none
theorem gUWord_eq (b : LI) : qco Tryd.prog (EUWord) 40 false Tryd.f64 [.cl (.sli .u8 b)] [] = gUWord b := by kernel_rfl
end Go.Proofs.YtbgkadaidhgggaaDoorA
