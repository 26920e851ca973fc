/-
 What the reading of apostille/apostilleref04.Less comes to, printed by a program. Conditions: none.
-/
import Derived.Test.YtfkpjbbkdkcdcaaDoorT1
set_option linter.unusedVariables false
set_option linter.unusedSimpArgs false
set_option maxRecDepth 100000
namespace Go.Proofs.YtfkpjbbkdkcdcaaDoorA
abbrev zR4Less0 := LI -> LI -> Bool -> Int -> Int -> LI -> Int -> Bool -> Int -> LI -> Int -> Bool -> LI -> Int -> LI -> Nat -> Int -> LI -> Int -> LI -> Nat -> Int -> LI -> Int -> LI -> Nat -> Int -> LI -> Int -> LI -> Nat -> Int -> Bool -> OO
abbrev zR4Less1 := LI -> LI -> Int -> Int -> LI -> Int -> Bool -> Int -> LI -> Int -> Bool -> OO
abbrev zR4Less2 := LI -> LI -> Int -> Int -> LI -> Int -> Bool -> OO
noncomputable def lpR4Less_2s (again : LI -> LI -> Int -> OO) (k0 : zR4Less0) (k1 : zR4Less1) (k2 : zR4Less2) (v1 v2 : LI) (v3 : Int) : OO :=
 cond (decide (v3 < ((v1.length : Nat) : Int))) (
 cond (decide (v3 < ((v2.length : Nat) : Int))) (
 cond (decide ((0 : Int) <= v3)) (
 cond (decide (v3 < ((v1.length : Nat) : Int))) (
 Option.bind (v1[(Int.toNat v3)]?) fun (e1 : Int) =>
 cond (decide ((0 : Int) <= v3)) (
 cond (decide (v3 < ((v2.length : Nat) : Int))) (
 Option.bind (v2[(Int.toNat v3)]?) fun (e2 : Int) =>
 cond (!decide (e1 = e2)) (
 cond (decide ((0 : Int) <= v3)) (
 cond (decide (v3 < ((v1.length : Nat) : Int))) (
 Option.bind (v1[(Int.toNat v3)]?) fun (e3 : Int) =>
 cond (decide ((0 : Int) <= v3)) (
 cond (decide (v3 < ((v2.length : Nat) : Int))) (
 Option.bind (v2[(Int.toNat v3)]?) fun (e4 : Int) =>
 k0 v1 v2 (decide (e3 < e4)) v3 v3 v1 ((v1.length : Nat) : Int) (decide (v3 < ((v1.length : Nat) : Int))) v3 v2 ((v2.length : Nat) : Int) (decide (v3 < ((v2.length : Nat) : Int))) v1 v3 v1 (Int.toNat v3) e1 v2 v3 v2 (Int.toNat v3) e2 v1 v3 v1 (Int.toNat v3) e3 v2 v3 v2 (Int.toNat v3) e4 (decide (e3 < e4))) none) none) none) none)
 (
 let x5 : Int := IntKind.i64.wrap (v3 + 1)
 again v1 v2 x5)) none) none) none) none)
 (
 k1 v1 v2 v3 v3 v1 ((v1.length : Nat) : Int) (decide (v3 < ((v1.length : Nat) : Int))) v3 v2 ((v2.length : Nat) : Int) (decide (v3 < ((v2.length : Nat) : Int)))))
 (
 k2 v1 v2 v3 v3 v1 ((v1.length : Nat) : Int) (decide (v3 < ((v1.length : Nat) : Int))))
noncomputable def lpR4Less_2 (k0 : zR4Less0) (k1 : zR4Less1) (k2 : zR4Less2) : Nat -> LI -> LI -> Int -> OO
 | 0 => fun _ _ _ => none
 | n + 1 => lpR4Less_2s (lpR4Less_2 k0 k1 k2 n) k0 k1 k2
noncomputable def clpR4Less_2_0 (k : KT) : zR4Less0 := fun y1 y2 y3 y4 y5 y6 y7 y8 y9 y10 y11 y12 y13 y14 y15 y16 y17 y18 y19 y20 y21 y22 y23 y24 y25 y26 y27 y28 y29 y30 y31 y32 y33 => k .ret ⟨[(0, qS y1), (1, qS y2), (4, qB y3), (5, qI y4), (6, qI y5), (7, qS y6), (8, qI y7), (9, qB y8), (10, qB true), (11, qI y9), (12, qS y10), (13, qI y11), (14, qB y12), (15, qB true), (18, qS y13), (19, qI y14), (20, .cl (.vp (.sli .u8 y15) y16 0)), (21, qU y17), (22, qS y18), (23, qI y19), (24, .cl (.vp (.sli .u8 y20) y21 0)), (25, qU y22), (26, qB true), (27, qS y23), (28, qI y24), (29, .cl (.vp (.sli .u8 y25) y26 0)), (30, qU y27), (31, qS y28), (32, qI y29), (33, .cl (.vp (.sli .u8 y30) y31 0)), (34, qU y32), (35, qB y33)], []⟩
noncomputable def clpR4Less_2_1 (k : KT) : zR4Less1 := fun y1 y2 y3 y4 y5 y6 y7 y8 y9 y10 y11 => k (.exit 0) ⟨[(0, qS y1), (1, qS y2), (5, qI y3), (6, qI y4), (7, qS y5), (8, qI y6), (9, qB y7), (10, qB true), (11, qI y8), (12, qS y9), (13, qI y10), (14, qB y11), (15, qB false)], []⟩
noncomputable def clpR4Less_2_2 (k : KT) : zR4Less2 := fun y1 y2 y3 y4 y5 y6 y7 => k (.exit 0) ⟨[(0, qS y1), (1, qS y2), (5, qI y3), (6, qI y4), (7, qS y5), (8, qI y6), (9, qB y7), (10, qB false), (11, .tup []), (12, .tup []), (13, .tup []), (14, .tup []), (15, qB false)], []⟩
noncomputable def LR4Less_2 : St -> (KT) -> OO := fun σ k => match σ with
 | ⟨[(q1, .cl (.sli .u8 v1)), (q2, .cl (.sli .u8 v2)), (q3, .cl (.int .i64 v3))], []⟩ => cond (Nat.beq q1 0 && Nat.beq q2 1 && Nat.beq q3 5) (shut (lpR4Less_2 (clpR4Less_2_0 k) (clpR4Less_2_1 k) (clpR4Less_2_2 k) FUEL) v1 v2 v3) none
 | _ => none
noncomputable def ER4Less : Env := {
 orc := fun _ => fun _ _ => Tree.fail
 pre := fun _ => fun _ _ => true
 live := fun r => cond (Nat.beq r 2) ([0, 1, 5]) ([])
 glob := glVal
 nt := 41
 lp := fun r => cond (Nat.beq r 2) (some (LR4Less_2)) (none)
}
noncomputable def blpR4Less_2 : Code := (Cd.fst (Cd.fst (Cd.snd (Cd.fst (Cd.snd (Tryd.f99.body.getD .skip))))))
theorem lpR4Less_2_step (k : KT) (n : Nat) (v1 v2 : LI) (v3 : Int) : iterK (n + 1) (codeK Tryd.prog (ER4Less) 40 blpR4Less_2) (head (ER4Less) 2) ⟨[(0, qS v1), (1, qS v2), (5, qI v3)], []⟩ k = lpR4Less_2s (fun v1 v2 v3 => iterK n (codeK Tryd.prog (ER4Less) 40 blpR4Less_2) (head (ER4Less) 2) ⟨[(0, qS v1), (1, qS v2), (5, qI v3)], []⟩ k) (clpR4Less_2_0 k) (clpR4Less_2_1 k) (clpR4Less_2_2 k) v1 v2 v3 := by kernel_rfl
theorem lpR4Less_2_eq (k : KT) : ∀ (n : Nat), ∀ (v1 v2 : LI) (v3 : Int), iterK n (codeK Tryd.prog (ER4Less) 40 blpR4Less_2) (head (ER4Less) 2) ⟨[(0, qS v1), (1, qS v2), (5, qI v3)], []⟩ k = lpR4Less_2 (clpR4Less_2_0 k) (clpR4Less_2_1 k) (clpR4Less_2_2 k) n v1 v2 v3
 | 0 => by intros; rfl
 | n + 1 => by
  intros
  rw [lpR4Less_2_step]
  have ih := lpR4Less_2_eq k n
  simp only [lpR4Less_2, ih]
theorem LR4Less_2_ok : ∀ (σ : St) (k : KT) (r : Out), LR4Less_2 σ k = some r -> ∃ n, iterK n (codeK Tryd.prog (ER4Less) 40 blpR4Less_2) (head (ER4Less) 2) σ k = some r := by
 intro σ k r h
 unfold LR4Less_2 at h
 split at h
 ·replace h := cond_some h
  obtain ⟨hc, h⟩ := h
  simp only [Bool.and_eq_true, beq_prop, decide_eq_true_eq, Bool.not_eq_true'] at hc
  obtain ⟨⟨rfl, rfl⟩, rfl⟩ := hc
  rw [shut_eq] at h
  exact ⟨FUEL, (lpR4Less_2_eq k FUEL _ _ _ ).trans h⟩
 ·cases h
theorem loopsR4Less : ∀ c, Tryd.f99.body = some c -> LoopsOk Tryd.prog (ER4Less) 40 c := by
 intro c hc
 cases hc
 exact ⟨trivial, ⟨⟨trivial, ⟨noneL_ok _ (by kernel_rfl), lp_some rfl (LR4Less_2_ok)⟩, jn_none rfl⟩, ⟨trivial, trivial, jn_none rfl⟩, jn_none rfl⟩, jn_none rfl⟩
noncomputable def gR4Less (a : LI) (b : LI) : OO :=
 shut (lpR4Less_2
 (fun y1 y2 y3 y4 y5 y6 y7 y8 y9 y10 y11 y12 y13 y14 y15 y16 y17 y18 y19 y20 y21 y22 y23 y24 y25 y26 y27 y28 y29 y30 y31 y32 y33 =>
 some (.ret [.cl (.bool y3)] []))
 (fun y34 y35 y36 y37 y38 y39 y40 y41 y42 y43 y44 =>
 some (.ret [.cl (.bool (decide (((y34.length : Nat) : Int) < ((y35.length : Nat) : Int))))] []))
 (fun y45 y46 y47 y48 y49 y50 y51 =>
 some (.ret [.cl (.bool (decide (((y45.length : Nat) : Int) < ((y46.length : Nat) : Int))))] []))
 FUEL) a b 0
theorem gR4Less_eq (a : LI) (b : LI) : bodyK Tryd.prog (ER4Less) 40 false Tryd.f99 [.cl (.sli .u8 a), .cl (.sli .u8 b)] [] = gR4Less a b := by kernel_rfl

noncomputable def EUWord : Env := {
 orc := fun _ => fun _ _ => Tree.fail
 pre := fun _ => fun _ _ => true
 glob := glVal
 nt := 71
}
theorem loopsUWord : ∀ c, Tryd.f168.body = some c -> LoopsOk Tryd.prog (EUWord) 40 c := by
 intro c hc
 cases hc
 exact noneL_ok _ (by kernel_rfl)
noncomputable def gUWord (b : LI) : OO :=
 cond (decide ((0 : Int) < ((b.length : Nat) : Int))) (
 Option.bind (b[0]?) fun (e1 : Int) =>
 let x2 : Int := IntKind.u64.wrap e1
 cond (decide ((1 : Int) < ((b.length : Nat) : Int))) (
 Option.bind (b[1]?) fun (e3 : Int) =>
 let x4 : Int := IntKind.u64.wrap e3
 let x5 : Int := IntKind.u64.wrap (x4 * 2 ^ 8)
 let x6 : Int := IntKind.u64.wrap ((BitVec.ofInt 64 x2 ||| BitVec.ofInt 64 x5).toNat)
 cond (decide ((2 : Int) < ((b.length : Nat) : Int))) (
 Option.bind (b[2]?) fun (e7 : Int) =>
 let x8 : Int := IntKind.u64.wrap e7
 let x9 : Int := IntKind.u64.wrap (x8 * 2 ^ 16)
 let x10 : Int := IntKind.u64.wrap ((BitVec.ofInt 64 x6 ||| BitVec.ofInt 64 x9).toNat)
 cond (decide ((3 : Int) < ((b.length : Nat) : Int))) (
 Option.bind (b[3]?) fun (e11 : Int) =>
 let x12 : Int := IntKind.u64.wrap e11
 let x13 : Int := IntKind.u64.wrap (x12 * 2 ^ 24)
 let x14 : Int := IntKind.u64.wrap ((BitVec.ofInt 64 x10 ||| BitVec.ofInt 64 x13).toNat)
 cond (decide ((4 : Int) < ((b.length : Nat) : Int))) (
 Option.bind (b[4]?) fun (e15 : Int) =>
 let x16 : Int := IntKind.u64.wrap e15
 let x17 : Int := IntKind.u64.wrap (x16 * 2 ^ 32)
 let x18 : Int := IntKind.u64.wrap ((BitVec.ofInt 64 x14 ||| BitVec.ofInt 64 x17).toNat)
 cond (decide ((5 : Int) < ((b.length : Nat) : Int))) (
 Option.bind (b[5]?) fun (e19 : Int) =>
 let x20 : Int := IntKind.u64.wrap e19
 let x21 : Int := IntKind.u64.wrap (x20 * 2 ^ 40)
 let x22 : Int := IntKind.u64.wrap ((BitVec.ofInt 64 x18 ||| BitVec.ofInt 64 x21).toNat)
 cond (decide ((6 : Int) < ((b.length : Nat) : Int))) (
 Option.bind (b[6]?) fun (e23 : Int) =>
 let x24 : Int := IntKind.u64.wrap e23
 let x25 : Int := IntKind.u64.wrap (x24 * 2 ^ 48)
 let x26 : Int := IntKind.u64.wrap ((BitVec.ofInt 64 x22 ||| BitVec.ofInt 64 x25).toNat)
 cond (decide ((7 : Int) < ((b.length : Nat) : Int))) (
 Option.bind (b[7]?) fun (e27 : Int) =>
 let x28 : Int := IntKind.u64.wrap e27
 let x29 : Int := IntKind.u64.wrap (x28 * 2 ^ 56)
 let x30 : Int := IntKind.u64.wrap ((BitVec.ofInt 64 x26 ||| BitVec.ofInt 64 x29).toNat)
 some (.ret [.cl (.int .u64 x30)] [])) none) none) none) none) none) none) none) none
theorem gUWord_eq (b : LI) : bodyK Tryd.prog (EUWord) 40 false Tryd.f168 [.cl (.sli .u8 b)] [] = gUWord b := by kernel_rfl

noncomputable def lpUValid_10s (again : LI -> OO) (k0 : LI -> OO) (v1 : LI) : OO :=
 cond (decide ((32 : Int) < ((v1.length : Nat) : Int))) (
 cond (bytesOk v1 && decide (8 <= v1.length)) (
 let r13 : Int := u8Word v1
 cond (decide ((8 : Int) <= ((v1.length : Nat) : Int))) (
 let l14 : LI := List.drop 8 v1
 cond (bytesOk l14 && decide (8 <= l14.length)) (
 let r15 : Int := u8Word l14
 let x16 : Int := IntKind.u64.wrap ((BitVec.ofInt 64 r13 ||| BitVec.ofInt 64 r15).toNat)
 cond (decide ((16 : Int) <= ((v1.length : Nat) : Int))) (
 let l17 : LI := List.drop 16 v1
 cond (bytesOk l17 && decide (8 <= l17.length)) (
 let r18 : Int := u8Word l17
 cond (decide ((24 : Int) <= ((v1.length : Nat) : Int))) (
 let l19 : LI := List.drop 24 v1
 cond (bytesOk l19 && decide (8 <= l19.length)) (
 let r20 : Int := u8Word l19
 let x21 : Int := IntKind.u64.wrap ((BitVec.ofInt 64 r18 ||| BitVec.ofInt 64 r20).toNat)
 let x22 : Int := IntKind.u64.wrap ((BitVec.ofInt 64 x16 ||| BitVec.ofInt 64 x21).toNat)
 let x23 : Int := IntKind.u64.wrap ((BitVec.ofInt 64 x22 &&& BitVec.ofInt 64 9259542123273814144).toNat)
 cond (decide (x23 = 0)) (
 cond (decide ((32 : Int) <= ((v1.length : Nat) : Int))) (
 let l24 : LI := List.drop 32 v1
 again l24) none)
 (
 k0 v1)) none) none) none) none) none) none) none)
 (
 k0 v1)
noncomputable def lpUValid_10 (k0 : LI -> OO) : Nat -> LI -> OO := iterF (fun a => lpUValid_10s a k0) (fun _ => none)
noncomputable def lpUValid_2s (again : LI -> OO) (k0 : OO) (k1 : OO) (v1 : LI) : OO :=
 cond (decide ((0 : Int) < ((v1.length : Nat) : Int))) (
 cond (decide ((0 : Int) < ((v1.length : Nat) : Int))) (
 Option.bind (v1[0]?) fun (e2 : Int) =>
 cond (decide (e2 < 128)) (
 cond (decide ((1 : Int) <= ((v1.length : Nat) : Int))) (
 let l3 : LI := List.drop 1 v1
 cond (decide ((8 : Int) < ((l3.length : Nat) : Int))) (
 cond (bytesOk l3 && decide (8 <= l3.length)) (
 let r4 : Int := u8Word l3
 let x5 : Int := IntKind.u64.wrap ((BitVec.ofInt 64 r4 &&& BitVec.ofInt 64 9259542123273814144).toNat)
 cond (decide (x5 = 0)) (
 cond (decide ((8 : Int) <= ((l3.length : Nat) : Int))) (
 let l6 : LI := List.drop 8 l3
 cond (decide ((16 : Int) < ((l6.length : Nat) : Int))) (
 cond (bytesOk l6 && decide (8 <= l6.length)) (
 let r7 : Int := u8Word l6
 cond (decide ((8 : Int) <= ((l6.length : Nat) : Int))) (
 let l8 : LI := List.drop 8 l6
 cond (bytesOk l8 && decide (8 <= l8.length)) (
 let r9 : Int := u8Word l8
 let x10 : Int := IntKind.u64.wrap ((BitVec.ofInt 64 r7 ||| BitVec.ofInt 64 r9).toNat)
 let x11 : Int := IntKind.u64.wrap ((BitVec.ofInt 64 x10 &&& BitVec.ofInt 64 9259542123273814144).toNat)
 cond (decide (x11 = 0)) (
 cond (decide ((16 : Int) <= ((l6.length : Nat) : Int))) (
 let l12 : LI := List.drop 16 l6
 shut (lpUValid_10
 (fun y13 =>
 again y13)
 FUEL) l12) none)
 (
 again l6)) none) none) none)
 (
 again l6)) none)
 (
 again l3)) none)
 (
 again l3)) none)
 (
 cond (decide ((0 : Int) <= e2)) (
 cond (decide (e2 < 256)) (
 Option.bind (u8First[(Int.toNat e2)]?) fun (e14 : Int) =>
 let x15 : Int := IntKind.u8.wrap ((BitVec.ofInt 8 e14 &&& BitVec.ofInt 8 7).toNat)
 let x16 : Int := IntKind.i64.wrap x15
 let x17 : Int := Int.fdiv e14 (2 ^ 4)
 cond (decide ((0 : Int) <= x17)) (
 cond (decide (x17 < 16)) (
 Option.bind (u8Accept[(Int.toNat x17)]?) fun (e18 : CV) =>
 let e19 : CV := (cell1 e18).headD .nili
 let e20 : CV := (cell1 e18).tail.headD .nili
 cond (okInt .u8 e19 && (okInt .u8 e20 && true)) (
 let i21 : Int := cvInt e19
 let i22 : Int := cvInt e20
 cond (decide (x16 = 2)) (
 cond (decide (((v1.length : Nat) : Int) < 2)) (
 k0)
 (
 cond (decide ((1 : Int) < ((v1.length : Nat) : Int))) (
 Option.bind (v1[1]?) fun (e23 : Int) =>
 cond (decide (e23 < i21)) (
 k0)
 (
 cond (decide ((1 : Int) < ((v1.length : Nat) : Int))) (
 Option.bind (v1[1]?) fun (e24 : Int) =>
 cond (decide (i22 < e24)) (
 k0)
 (
 cond (decide ((2 : Int) <= ((v1.length : Nat) : Int))) (
 let l25 : LI := List.drop 2 v1
 again l25) none)) none)) none))
 (
 cond (decide (x16 = 3)) (
 cond (decide (((v1.length : Nat) : Int) < 3)) (
 k0)
 (
 cond (decide ((1 : Int) < ((v1.length : Nat) : Int))) (
 Option.bind (v1[1]?) fun (e26 : Int) =>
 cond (decide (e26 < i21)) (
 k0)
 (
 cond (decide ((1 : Int) < ((v1.length : Nat) : Int))) (
 Option.bind (v1[1]?) fun (e27 : Int) =>
 cond (decide (i22 < e27)) (
 k0)
 (
 cond (decide ((2 : Int) < ((v1.length : Nat) : Int))) (
 Option.bind (v1[2]?) fun (e28 : Int) =>
 cond (decide (e28 < 128)) (
 k0)
 (
 cond (decide ((2 : Int) < ((v1.length : Nat) : Int))) (
 Option.bind (v1[2]?) fun (e29 : Int) =>
 cond (decide ((191 : Int) < e29)) (
 k0)
 (
 cond (decide ((3 : Int) <= ((v1.length : Nat) : Int))) (
 let l30 : LI := List.drop 3 v1
 again l30) none)) none)) none)) none)) none))
 (
 cond (decide (x16 = 4)) (
 cond (decide (((v1.length : Nat) : Int) < 4)) (
 k0)
 (
 cond (decide ((1 : Int) < ((v1.length : Nat) : Int))) (
 Option.bind (v1[1]?) fun (e31 : Int) =>
 cond (decide (e31 < i21)) (
 k0)
 (
 cond (decide ((1 : Int) < ((v1.length : Nat) : Int))) (
 Option.bind (v1[1]?) fun (e32 : Int) =>
 cond (decide (i22 < e32)) (
 k0)
 (
 cond (decide ((2 : Int) < ((v1.length : Nat) : Int))) (
 Option.bind (v1[2]?) fun (e33 : Int) =>
 cond (decide (e33 < 128)) (
 k0)
 (
 cond (decide ((2 : Int) < ((v1.length : Nat) : Int))) (
 Option.bind (v1[2]?) fun (e34 : Int) =>
 cond (decide ((191 : Int) < e34)) (
 k0)
 (
 cond (decide ((3 : Int) < ((v1.length : Nat) : Int))) (
 Option.bind (v1[3]?) fun (e35 : Int) =>
 cond (decide (e35 < 128)) (
 k0)
 (
 cond (decide ((3 : Int) < ((v1.length : Nat) : Int))) (
 Option.bind (v1[3]?) fun (e36 : Int) =>
 cond (decide ((191 : Int) < e36)) (
 k0)
 (
 cond (decide ((4 : Int) <= ((v1.length : Nat) : Int))) (
 let l37 : LI := List.drop 4 v1
 again l37) none)) none)) none)) none)) none)) none)) none))
 (
 k0)))) none) none) none) none) none)) none)
 (
 k1)
noncomputable def lpUValid_2 (k0 : OO) (k1 : OO) : Nat -> LI -> OO := iterF (fun a => lpUValid_2s a k0 k1) (fun _ => none)
noncomputable def LUValid_10 : St -> (KT) -> OO := fun σ k => match σ with
 | ⟨[(q1, .cl (.sli .u8 v1))], []⟩ => cond (Nat.beq q1 0) (shut (lpUValid_10 (fun y1 => k (.exit 2) ⟨[(0, .cl (.sli .u8 y1))], []⟩) FUEL) v1) none
 | _ => none
noncomputable def LUValid_2 : St -> (KT) -> OO := fun σ k => match σ with
 | ⟨[(q1, .cl (.sli .u8 v1))], []⟩ => cond (Nat.beq q1 0) (shut (lpUValid_2 (k .ret ⟨[(2, .cl (.bool false))], []⟩) (k (.exit 0) ⟨[], []⟩) FUEL) v1) none
 | _ => none
noncomputable def EUValid : Env := {
 orc := fun g => cond (Nat.beq g 168) SUWord (fun _ _ => Tree.fail)
 pre := fun g => cond (Nat.beq g 168) preUWord (fun _ _ => true)
 live := fun r => cond (Nat.beq r 2) ([0]) (cond (Nat.beq r 10) ([0]) ([]))
 glob := glVal
 nt := 188
 lp := fun r => cond (Nat.beq r 2) (some (LUValid_2)) (cond (Nat.beq r 10) (some (LUValid_10)) (none))
 xl := fun r => cond (Nat.beq r 0) (some [2]) (cond (Nat.beq r 1) (some []) (cond (Nat.beq r 2) (some [0]) (cond (Nat.beq r 3) (some [0]) (none))))
}
noncomputable def blpUValid_10 : Code := (Cd.fst (Cd.fst (Cd.snd (Cd.fst (Cd.snd (Cd.snd (Cd.fst (Cd.snd (Cd.fst (Cd.snd (Cd.fst (Cd.snd (Cd.fst (Cd.snd (Cd.fst (Cd.snd (Cd.fst (Cd.fst (Cd.fst (Cd.snd (Cd.snd (Tryd.f161.body.getD .skip))))))))))))))))))))))
noncomputable def blpUValid_2 : Code := (Cd.fst (Cd.fst (Cd.fst (Cd.snd (Cd.snd (Tryd.f161.body.getD .skip))))))
theorem LUValid_10_ok : LpOk Tryd.prog (EUValid) 40 blpUValid_10 10 LUValid_10 := by
 intro σ k r h
 unfold LUValid_10 at h
 split at h
 ·replace h := cond_some h
  obtain ⟨hc, h⟩ := h
  simp only [Bool.and_eq_true, beq_prop, decide_eq_true_eq, Bool.not_eq_true'] at hc
  obtain rfl := hc
  rw [shut_eq] at h
  exact ⟨FUEL, iter_ok (F := fun n v1 => iterK n (codeK Tryd.prog (EUValid) 40 blpUValid_10) (head (EUValid) 10) ⟨[(0, .cl (.sli .u8 v1))], []⟩ k) (Q := fun f => f _ = some r) rfl (fun n => by kernel_rfl) h⟩
 ·cases h
theorem LUValid_2_ok : LpOk Tryd.prog (EUValid) 40 blpUValid_2 2 LUValid_2 := by
 intro σ k r h
 unfold LUValid_2 at h
 split at h
 ·replace h := cond_some h
  obtain ⟨hc, h⟩ := h
  simp only [Bool.and_eq_true, beq_prop, decide_eq_true_eq, Bool.not_eq_true'] at hc
  obtain rfl := hc
  rw [shut_eq] at h
  exact ⟨FUEL, iter_ok (F := fun n v1 => iterK n (codeK Tryd.prog (EUValid) 40 blpUValid_2) (head (EUValid) 2) ⟨[(0, .cl (.sli .u8 v1))], []⟩ k) (Q := fun f => f _ = some r) rfl (fun n => by kernel_rfl) h⟩
 ·cases h
theorem loopsUValid : ∀ c, Tryd.f161.body = some c -> LoopsOk Tryd.prog (EUValid) 40 c := by
 intro c hc
 cases hc
 exact ⟨trivial, ⟨trivial, ⟨⟨⟨noneL_ok _ (by kernel_rfl), ⟨trivial, ⟨⟨trivial, ⟨⟨trivial, ⟨⟨trivial, ⟨⟨trivial, ⟨trivial, ⟨⟨trivial, ⟨noneL_ok _ (by kernel_rfl), lp_some rfl (LUValid_10_ok)⟩, jn_none rfl⟩, trivial, jn_none rfl⟩, jn_none rfl⟩, jn_none rfl⟩, trivial, jn_none rfl⟩, jn_none rfl⟩, trivial, jn_none rfl⟩, jn_none rfl⟩, trivial, jn_none rfl⟩, jn_none rfl⟩, noneL_ok _ (by kernel_rfl), jn_none rfl⟩, jn_none rfl⟩, jn_none rfl⟩, lp_some rfl (LUValid_2_ok)⟩, ⟨trivial, trivial, jn_none rfl⟩, jn_none rfl⟩, jn_none rfl⟩, jn_none rfl⟩
noncomputable def gUValid (b : LI) : OO :=
 cond (decide ((0 : Int) <= ((b.length : Nat) : Int)) && decide (((b.length : Nat) : Int) <= ((b.length : Nat) : Int))) (
 cond (decide (((b.length : Nat) : Int) <= ((b.length : Nat) : Int))) (
 let l1 : LI := List.take (Int.toNat ((b.length : Nat) : Int)) b
 shut (lpUValid_2
 (
 some (.ret [.cl (.bool false)] []))
 (
 some (.ret [.cl (.bool true)] []))
 FUEL) l1) none) none
theorem gUValid_eq (b : LI) : bodyK Tryd.prog (EUValid) 40 false Tryd.f161 [.cl (.sli .u8 b)] [] = gUValid b := by kernel_rfl

abbrev zRSame0 := Int -> Int -> LC -> Int -> LC -> Int -> LC -> Nat -> Int -> LI -> LC -> LC -> Int -> LC -> Nat -> Int -> LI -> LC -> Bool -> Int -> LI -> LC -> Int -> LI -> LC -> OO
abbrev zRSame1 := Int -> Int -> LC -> Int -> Int -> LI -> LC -> Int -> LI -> LC -> OO
noncomputable def lpRSame_4s (rk : Nat) (again : Int -> Int -> LI -> LC -> Int -> LI -> LC -> OO) (k0 : zRSame0) (k1 : zRSame1) (v1 v2 : Int) (v3 : LI) (v4 : LC) (v5 : Int) (v6 : LI) (v7 : LC) : OO :=
 cond (decide (v1 < ((v4.length : Nat) : Int))) (
 cond (decide ((0 : Int) <= v1)) (
 cond (decide (v1 < ((v4.length : Nat) : Int))) (
 Option.bind (v4[(Int.toNat v1)]?) fun (e2 : CV) =>
 let e3 : CV := (cell1 e2).headD .nili
 let e4 : CV := (cell1 e2).tail.headD .nili
 let e5 : CV := (cell1 e2).tail.tail.headD .nili
 cond (okInt .i64 e3 && (okSli .u8 e4 && (okSlg 3 e5 && true))) (
 let i6 : Int := cvInt e3
 let l7 : LI := cvSli e4
 let l8 : LC := cvSlg e5
 cond (decide ((0 : Int) <= v1)) (
 cond (decide (v1 < ((v7.length : Nat) : Int))) (
 Option.bind (v7[(Int.toNat v1)]?) fun (e9 : CV) =>
 let e10 : CV := (cell1 e9).headD .nili
 let e11 : CV := (cell1 e9).tail.headD .nili
 let e12 : CV := (cell1 e9).tail.tail.headD .nili
 cond (okInt .i64 e10 && (okSli .u8 e11 && (okSlg 3 e12 && true))) (
 let i13 : Int := cvInt e10
 let l14 : LI := cvSli e11
 let l15 : LC := cvSlg e12
 cond (isNr rk [.int .i64 i6, .sli .u8 l7, .slg 3 l8] && isN [.int .i64 i13, .sli .u8 l14, .slg 3 l15]) (
 let r16 : Bool := ndSame [.int .i64 i6, .sli .u8 l7, .slg 3 l8] [.int .i64 i13, .sli .u8 l14, .slg 3 l15]
 cond (!r16) (
 k0 v1 v1 v4 ((v4.length : Nat) : Int) v4 v1 v4 (Int.toNat v1) i6 l7 l8 v7 v1 v7 (Int.toNat v1) i13 l14 l15 r16 v2 v3 v4 v5 v6 v7)
 (
 let x17 : Int := IntKind.i64.wrap (v1 + 1)
 again x17 v2 v3 v4 v5 v6 v7)) none) none) none) none) none) none) none)
 (
 k1 v1 v1 v4 ((v4.length : Nat) : Int) v2 v3 v4 v5 v6 v7)
noncomputable def lpRSame_4 (rk : Nat) (k0 : zRSame0) (k1 : zRSame1) : Nat -> Int -> Int -> LI -> LC -> Int -> LI -> LC -> OO
 | 0 => fun _ _ _ _ _ _ _ => none
 | n + 1 => lpRSame_4s rk (lpRSame_4 rk k0 k1 n) k0 k1
noncomputable def clpRSame_4_0 (k : KT) : zRSame0 := fun y1 y2 y3 y4 y5 y6 y7 y8 y9 y10 y11 y12 y13 y14 y15 y16 y17 y18 y19 y20 y21 y22 y23 y24 y25 => k .ret ⟨[(2, .ptr 66 0 0), (3, .ptr 67 0 0), (4, qB false), (5, qI y1), (28, qI y2), (29, .ptr 66 0 2), (30, qG 3 y3), (31, qI y4), (32, qB true), (35, .ptr 66 0 2), (36, qG 3 y5), (37, qI y6), (38, .cl (.vp (.slg 3 y7) y8 0)), (39, .cl (.agg [.int .i64 y9, .sli .u8 y10, .slg 3 y11])), (40, .ptr 67 0 2), (41, qG 3 y12), (42, qI y13), (43, .cl (.vp (.slg 3 y14) y15 0)), (44, .cl (.agg [.int .i64 y16, .sli .u8 y17, .slg 3 y18])), (45, qB y19), (46, qB true)], [(66, ⟨.var [qI y20, qS y21, qG 3 y22], false⟩), (67, ⟨.var [qI y23, qS y24, qG 3 y25], false⟩)]⟩
noncomputable def clpRSame_4_1 (k : KT) : zRSame1 := fun y1 y2 y3 y4 y5 y6 y7 y8 y9 y10 => k (.exit 0) ⟨[(2, .ptr 66 0 0), (3, .ptr 67 0 0), (5, qI y1), (28, qI y2), (29, .ptr 66 0 2), (30, qG 3 y3), (31, qI y4), (32, qB false)], [(66, ⟨.var [qI y5, qS y6, qG 3 y7], false⟩), (67, ⟨.var [qI y8, qS y9, qG 3 y10], false⟩)]⟩
noncomputable def LRSame_4 (rk : Nat) : St -> (KT) -> OO := fun σ k => match σ with
 | ⟨[(q1, .ptr q2 q3 q4), (q5, .ptr q6 q7 q8), (q9, .cl (.int .i64 v1))], [(q10, ⟨.var [.cl (.int .i64 v2), .cl (.sli .u8 v3), .cl (.slg q11 v4)], false⟩), (q12, ⟨.var [.cl (.int .i64 v5), .cl (.sli .u8 v6), .cl (.slg q13 v7)], false⟩)]⟩ => cond (Nat.beq q1 2 && Nat.beq q2 66 && Nat.beq q3 0 && Nat.beq q4 0 && Nat.beq q5 3 && Nat.beq q6 67 && Nat.beq q7 0 && Nat.beq q8 0 && Nat.beq q9 5 && Nat.beq q10 66 && Nat.beq q11 3 && Nat.beq q12 67 && Nat.beq q13 3) (shut (lpRSame_4 rk (clpRSame_4_0 k) (clpRSame_4_1 k) FUEL) v1 v2 v3 v4 v5 v6 v7) none
 | _ => none
noncomputable def ERSame (rk : Nat) : Env := {
 orc := fun g => cond (Nat.beq g 16) SRSame (cond (Nat.beq g 28) SR1Same (fun _ _ => Tree.fail))
 pre := fun g => cond (Nat.beq g 16) (preRRSame (rk)) (cond (Nat.beq g 28) preR1Same (fun _ _ => true))
 live := fun r => cond (Nat.beq r 4) ([2, 3, 5]) ([])
 glob := glVal
 nt := 47
 lp := fun r => cond (Nat.beq r 4) (some (LRSame_4 rk)) (none)
}
noncomputable def blpRSame_4 : Code := (Cd.fst (Cd.fst (Cd.snd (Cd.fst (Cd.snd (Cd.snd (Tryd.f16.body.getD .skip)))))))
theorem lpRSame_4_step (rk : Nat) (k : KT) (n : Nat) (v1 v2 : Int) (v3 : LI) (v4 : LC) (v5 : Int) (v6 : LI) (v7 : LC) : iterK (n + 1) (codeK Tryd.prog (ERSame rk) 40 blpRSame_4) (head (ERSame rk) 4) ⟨[(2, .ptr 66 0 0), (3, .ptr 67 0 0), (5, qI v1)], [(66, ⟨.var [qI v2, qS v3, qG 3 v4], false⟩), (67, ⟨.var [qI v5, qS v6, qG 3 v7], false⟩)]⟩ k = lpRSame_4s rk (fun v1 v2 v3 v4 v5 v6 v7 => iterK n (codeK Tryd.prog (ERSame rk) 40 blpRSame_4) (head (ERSame rk) 4) ⟨[(2, .ptr 66 0 0), (3, .ptr 67 0 0), (5, qI v1)], [(66, ⟨.var [qI v2, qS v3, qG 3 v4], false⟩), (67, ⟨.var [qI v5, qS v6, qG 3 v7], false⟩)]⟩ k) (clpRSame_4_0 k) (clpRSame_4_1 k) v1 v2 v3 v4 v5 v6 v7 := by kernel_rfl
theorem lpRSame_4_eq (rk : Nat) (k : KT) : ∀ (n : Nat), ∀ (v1 v2 : Int) (v3 : LI) (v4 : LC) (v5 : Int) (v6 : LI) (v7 : LC), iterK n (codeK Tryd.prog (ERSame rk) 40 blpRSame_4) (head (ERSame rk) 4) ⟨[(2, .ptr 66 0 0), (3, .ptr 67 0 0), (5, qI v1)], [(66, ⟨.var [qI v2, qS v3, qG 3 v4], false⟩), (67, ⟨.var [qI v5, qS v6, qG 3 v7], false⟩)]⟩ k = lpRSame_4 rk (clpRSame_4_0 k) (clpRSame_4_1 k) n v1 v2 v3 v4 v5 v6 v7
 | 0 => by intros; rfl
 | n + 1 => by
  intros
  rw [lpRSame_4_step]
  have ih := lpRSame_4_eq rk k n
  simp only [lpRSame_4, ih]
theorem LRSame_4_ok (rk : Nat) : ∀ (σ : St) (k : KT) (r : Out), LRSame_4 rk σ k = some r -> ∃ n, iterK n (codeK Tryd.prog (ERSame rk) 40 blpRSame_4) (head (ERSame rk) 4) σ k = some r := by
 intro σ k r h
 unfold LRSame_4 at h
 split at h
 ·replace h := cond_some h
  obtain ⟨hc, h⟩ := h
  simp only [Bool.and_eq_true, beq_prop, decide_eq_true_eq, Bool.not_eq_true'] at hc
  obtain ⟨⟨⟨⟨⟨⟨⟨⟨⟨⟨⟨⟨rfl, rfl⟩, rfl⟩, rfl⟩, rfl⟩, rfl⟩, rfl⟩, rfl⟩, rfl⟩, rfl⟩, rfl⟩, rfl⟩, rfl⟩ := hc
  rw [shut_eq] at h
  exact ⟨FUEL, (lpRSame_4_eq rk k FUEL _ _ _ _ _ _ _ ).trans h⟩
 ·cases h
theorem loopsRSame (rk : Nat) : ∀ c, Tryd.f16.body = some c -> LoopsOk Tryd.prog (ERSame rk) 40 c := by
 intro c hc
 cases hc
 exact ⟨trivial, ⟨noneL_ok _ (by kernel_rfl), ⟨⟨trivial, ⟨noneL_ok _ (by kernel_rfl), lp_some rfl (LRSame_4_ok rk)⟩, jn_none rfl⟩, ⟨trivial, trivial, jn_none rfl⟩, jn_none rfl⟩, jn_none rfl⟩, jn_none rfl⟩
noncomputable def gRSame (rk : Nat) (ta : Int) (ba : LI) (ka : LC) (tb : Int) (bb : LI) (kb : LC) : OO :=
 cond (!decide (ta = tb)) (
 some (.ret [.cl (.bool false)] []))
 (
 cond (lenOk ba) (
 let r1 : Bool := listSame ba bb
 cond (!r1) (
 some (.ret [.cl (.bool false)] []))
 (
 cond (!decide (((ka.length : Nat) : Int) = ((kb.length : Nat) : Int))) (
 some (.ret [.cl (.bool false)] []))
 (
 shut (lpRSame_4 rk
 (fun y2 y3 y4 y5 y6 y7 y8 y9 y10 y11 y12 y13 y14 y15 y16 y17 y18 y19 y20 y21 y22 y23 y24 y25 y26 =>
 some (.ret [.cl (.bool false)] []))
 (fun y27 y28 y29 y30 y31 y32 y33 y34 y35 y36 =>
 some (.ret [.cl (.bool true)] []))
 FUEL) 0 ta ba ka tb bb kb))) none)
theorem gRSame_eq (rk : Nat) (ta : Int) (ba : LI) (ka : LC) (tb : Int) (bb : LI) (kb : LC) : bodyK Tryd.prog (ERSame rk) 40 false Tryd.f16 [.cl (.agg [.int .i64 ta, .sli .u8 ba, .slg 3 ka]), .cl (.agg [.int .i64 tb, .sli .u8 bb, .slg 3 kb])] [] = gRSame rk ta ba ka tb bb kb := by kernel_rfl

noncomputable def EDFits : Env := {
 orc := fun g => cond (Nat.beq g 82) SOParse (cond (Nat.beq g 85) SSRead (cond (Nat.beq g 159) SDNumber (cond (Nat.beq g 160) SDStrip (cond (Nat.beq g 161) SUValid (fun _ _ => Tree.fail)))))
 pre := fun g => cond (Nat.beq g 82) preOParse (cond (Nat.beq g 85) preSRead (cond (Nat.beq g 159) preDNumber (cond (Nat.beq g 160) preDStrip (cond (Nat.beq g 161) preUValid (fun _ _ => true)))))
 glob := glVal
 nt := 63
}
theorem loopsDFits : ∀ c, Tryd.f147.body = some c -> LoopsOk Tryd.prog (EDFits) 40 c := by
 intro c hc
 cases hc
 exact noneL_ok _ (by kernel_rfl)
noncomputable def gDFits (tag : Int) (b : LI) : OO :=
 cond (decide (tag = 1)) (
 cond (decide (((b.length : Nat) : Int) = 1)) (
 cond (decide ((0 : Int) < ((b.length : Nat) : Int))) (
 Option.bind (b[0]?) fun (e1 : Int) =>
 cond (decide (e1 = 0)) (
 some (.ret [.cl (.bool true)] []))
 (
 cond (decide ((0 : Int) < ((b.length : Nat) : Int))) (
 Option.bind (b[0]?) fun (e2 : Int) =>
 some (.ret [.cl (.bool (decide (e2 = 255)))] [])) none)) none)
 (
 some (.ret [.cl (.bool false)] [])))
 (
 cond (decide (tag = 2)) (
 cond (bytesOk b) (
 let r3 : Bool := derNumber b
 some (.ret [.cl (.bool r3)] [])) none)
 (
 cond (decide (tag = 3)) (
 cond (bytesOk b) (
 let r4 : Bool := derStrip b
 some (.ret [.cl (.bool r4)] [])) none)
 (
 cond (decide (tag = 5)) (
 some (.ret [.cl (.bool (decide (((b.length : Nat) : Int) = 0)))] []))
 (
 cond (decide (tag = 6)) (
 cond (bytesOk b) (
 let r6 : Int := (oidParse b).2
 some (.ret [.cl (.bool (decide (r6 = 0)))] [])) none)
 (
 cond (decide (tag = 12)) (
 cond (bytesOk b) (
 let r7 : Bool := u8Valid b
 some (.ret [.cl (.bool r7)] [])) none)
 (
 cond (decide (tag = 24)) (
 let s8 : ByteArray := strOf b
 let r10 : Int := (stRead s8).2
 some (.ret [.cl (.bool (decide (r10 = 0)))] []))
 (
 some (.ret [.cl (.bool true)] []))))))))
theorem gDFits_eq (tag : Int) (b : LI) : bodyK Tryd.prog (EDFits) 40 false Tryd.f147 [.cl (.int .i64 tag), .cl (.sli .u8 b)] [] = gDFits tag b := by kernel_rfl

noncomputable def ERFits : Env := {
 orc := fun g => cond (Nat.beq g 83) SR2Parse (cond (Nat.beq g 86) SRRead (cond (Nat.beq g 139) SRFitInt (cond (Nat.beq g 140) SRFitBits (cond (Nat.beq g 141) SRUtf8 (fun _ _ => Tree.fail)))))
 pre := fun g => cond (Nat.beq g 83) preR2Parse (cond (Nat.beq g 86) preRRead (cond (Nat.beq g 139) preRFitInt (cond (Nat.beq g 140) preRFitBits (cond (Nat.beq g 141) preRUtf8 (fun _ _ => true)))))
 glob := glVal
 nt := 63
}
theorem loopsRFits : ∀ c, Tryd.f111.body = some c -> LoopsOk Tryd.prog (ERFits) 40 c := by
 intro c hc
 cases hc
 exact noneL_ok _ (by kernel_rfl)
noncomputable def gRFits (tag : Int) (b : LI) : OO :=
 cond (decide (tag = 1)) (
 cond (decide (((b.length : Nat) : Int) = 1)) (
 cond (decide ((0 : Int) < ((b.length : Nat) : Int))) (
 Option.bind (b[0]?) fun (e1 : Int) =>
 cond (decide (e1 = 0)) (
 some (.ret [.cl (.bool true)] []))
 (
 cond (decide ((0 : Int) < ((b.length : Nat) : Int))) (
 Option.bind (b[0]?) fun (e2 : Int) =>
 some (.ret [.cl (.bool (decide (e2 = 255)))] [])) none)) none)
 (
 some (.ret [.cl (.bool false)] [])))
 (
 cond (decide (tag = 2)) (
 cond (bytesOk b) (
 let r3 : Bool := derNumber b
 some (.ret [.cl (.bool r3)] [])) none)
 (
 cond (decide (tag = 3)) (
 cond (bytesOk b) (
 let r4 : Bool := derStrip b
 some (.ret [.cl (.bool r4)] [])) none)
 (
 cond (decide (tag = 5)) (
 some (.ret [.cl (.bool (decide (((b.length : Nat) : Int) = 0)))] []))
 (
 cond (decide (tag = 6)) (
 cond (bytesOk b) (
 let r6 : Int := (oidParse b).2
 some (.ret [.cl (.bool (decide (r6 = 0)))] [])) none)
 (
 cond (decide (tag = 12)) (
 cond (bytesOk b) (
 let r7 : Bool := u8Valid b
 some (.ret [.cl (.bool r7)] [])) none)
 (
 cond (decide (tag = 24)) (
 let s8 : ByteArray := strOf b
 let r10 : Int := (stRead s8).2
 some (.ret [.cl (.bool (decide (r10 = 0)))] []))
 (
 some (.ret [.cl (.bool true)] []))))))))
theorem gRFits_eq (tag : Int) (b : LI) : bodyK Tryd.prog (ERFits) 40 false Tryd.f111 [.cl (.int .i64 tag), .cl (.sli .u8 b)] [] = gRFits tag b := by kernel_rfl

abbrev zR4Sorted0 := LC -> Int -> Int -> LC -> Int -> LC -> Int -> LC -> Nat -> LI -> LC -> Int -> Int -> LC -> Nat -> LI -> OO
abbrev zR4Sorted1 := LC -> Int -> Int -> LC -> Int -> OO
noncomputable def lpR4Sorted_2s (again : LC -> Int -> OO) (k0 : zR4Sorted0) (k1 : zR4Sorted1) (v1 : LC) (v2 : Int) : OO :=
 cond (decide (v2 < ((v1.length : Nat) : Int))) (
 cond (decide ((0 : Int) <= v2)) (
 cond (decide (v2 < ((v1.length : Nat) : Int))) (
 Option.bind (v1[(Int.toNat v2)]?) fun (e1 : CV) =>
 let e2 : CV := (cell1 e1).getD 0 .nili
 cond (okSli .u8 e2) (
 let l3 : LI := cvSli e2
 let x4 : Int := IntKind.i64.wrap (v2 - 1)
 cond (decide ((0 : Int) <= x4)) (
 cond (decide (x4 < ((v1.length : Nat) : Int))) (
 Option.bind (v1[(Int.toNat x4)]?) fun (e5 : CV) =>
 let e6 : CV := (cell1 e5).getD 0 .nili
 cond (okSli .u8 e6) (
 let l7 : LI := cvSli e6
 cond (lenOk l3) (
 let r8 : Bool := listLess l3 l7
 cond (r8) (
 k0 v1 v2 v2 v1 ((v1.length : Nat) : Int) v1 v2 v1 (Int.toNat v2) l3 v1 v2 x4 v1 (Int.toNat x4) l7)
 (
 let x9 : Int := IntKind.i64.wrap (v2 + 1)
 again v1 x9)) none) none) none) none) none) none) none)
 (
 k1 v1 v2 v2 v1 ((v1.length : Nat) : Int))
noncomputable def lpR4Sorted_2 (k0 : zR4Sorted0) (k1 : zR4Sorted1) : Nat -> LC -> Int -> OO
 | 0 => fun _ _ => none
 | n + 1 => lpR4Sorted_2s (lpR4Sorted_2 k0 k1 n) k0 k1
noncomputable def clpR4Sorted_2_0 (k : KT) : zR4Sorted0 := fun y1 y2 y3 y4 y5 y6 y7 y8 y9 y10 y11 y12 y13 y14 y15 y16 => k .ret ⟨[(0, qG 1 y1), (2, qB false), (3, qI y2), (4, qI y3), (5, qG 1 y4), (6, qI y5), (7, qB true), (10, qG 1 y6), (11, qI y7), (12, .cl (.vp (.slg 1 y8) y9 0)), (13, qS y10), (14, qG 1 y11), (15, qI y12), (16, qI y13), (17, .cl (.vp (.slg 1 y14) y15 0)), (18, qS y16), (19, qB true)], []⟩
noncomputable def clpR4Sorted_2_1 (k : KT) : zR4Sorted1 := fun y1 y2 y3 y4 y5 => k (.exit 0) ⟨[(0, qG 1 y1), (3, qI y2), (4, qI y3), (5, qG 1 y4), (6, qI y5), (7, qB false)], []⟩
noncomputable def LR4Sorted_2 : St -> (KT) -> OO := fun σ k => match σ with
 | ⟨[(q1, .cl (.slg q2 v1)), (q3, .cl (.int .i64 v2))], []⟩ => cond (Nat.beq q1 0 && Nat.beq q2 1 && Nat.beq q3 3) (shut (lpR4Sorted_2 (clpR4Sorted_2_0 k) (clpR4Sorted_2_1 k) FUEL) v1 v2) none
 | _ => none
noncomputable def ER4Sorted : Env := {
 orc := fun g => cond (Nat.beq g 99) SR4Less (fun _ _ => Tree.fail)
 pre := fun g => cond (Nat.beq g 99) preR4Less (fun _ _ => true)
 live := fun r => cond (Nat.beq r 2) ([0, 3]) ([])
 glob := glVal
 nt := 20
 lp := fun r => cond (Nat.beq r 2) (some (LR4Sorted_2)) (none)
}
noncomputable def blpR4Sorted_2 : Code := (Cd.fst (Cd.fst (Cd.snd (Cd.fst (Cd.snd (Tryd.f144.body.getD .skip))))))
theorem lpR4Sorted_2_step (k : KT) (n : Nat) (v1 : LC) (v2 : Int) : iterK (n + 1) (codeK Tryd.prog (ER4Sorted) 40 blpR4Sorted_2) (head (ER4Sorted) 2) ⟨[(0, qG 1 v1), (3, qI v2)], []⟩ k = lpR4Sorted_2s (fun v1 v2 => iterK n (codeK Tryd.prog (ER4Sorted) 40 blpR4Sorted_2) (head (ER4Sorted) 2) ⟨[(0, qG 1 v1), (3, qI v2)], []⟩ k) (clpR4Sorted_2_0 k) (clpR4Sorted_2_1 k) v1 v2 := by kernel_rfl
theorem lpR4Sorted_2_eq (k : KT) : ∀ (n : Nat), ∀ (v1 : LC) (v2 : Int), iterK n (codeK Tryd.prog (ER4Sorted) 40 blpR4Sorted_2) (head (ER4Sorted) 2) ⟨[(0, qG 1 v1), (3, qI v2)], []⟩ k = lpR4Sorted_2 (clpR4Sorted_2_0 k) (clpR4Sorted_2_1 k) n v1 v2
 | 0 => by intros; rfl
 | n + 1 => by
  intros
  rw [lpR4Sorted_2_step]
  have ih := lpR4Sorted_2_eq k n
  simp only [lpR4Sorted_2, ih]
theorem LR4Sorted_2_ok : ∀ (σ : St) (k : KT) (r : Out), LR4Sorted_2 σ k = some r -> ∃ n, iterK n (codeK Tryd.prog (ER4Sorted) 40 blpR4Sorted_2) (head (ER4Sorted) 2) σ k = some r := by
 intro σ k r h
 unfold LR4Sorted_2 at h
 split at h
 ·replace h := cond_some h
  obtain ⟨hc, h⟩ := h
  simp only [Bool.and_eq_true, beq_prop, decide_eq_true_eq, Bool.not_eq_true'] at hc
  obtain ⟨⟨rfl, rfl⟩, rfl⟩ := hc
  rw [shut_eq] at h
  exact ⟨FUEL, (lpR4Sorted_2_eq k FUEL _ _ ).trans h⟩
 ·cases h
theorem loopsR4Sorted : ∀ c, Tryd.f144.body = some c -> LoopsOk Tryd.prog (ER4Sorted) 40 c := by
 intro c hc
 cases hc
 exact ⟨trivial, ⟨⟨trivial, ⟨noneL_ok _ (by kernel_rfl), lp_some rfl (LR4Sorted_2_ok)⟩, jn_none rfl⟩, ⟨trivial, trivial, jn_none rfl⟩, jn_none rfl⟩, jn_none rfl⟩
noncomputable def gR4Sorted (l : LC) : OO :=
 shut (lpR4Sorted_2
 (fun y1 y2 y3 y4 y5 y6 y7 y8 y9 y10 y11 y12 y13 y14 y15 y16 =>
 some (.ret [.cl (.bool false)] []))
 (fun y17 y18 y19 y20 y21 =>
 some (.ret [.cl (.bool true)] []))
 FUEL) l 1
theorem gR4Sorted_eq (l : LC) : bodyK Tryd.prog (ER4Sorted) 40 false Tryd.f144 [.cl (.slg 1 l)] [] = gR4Sorted l := by kernel_rfl

noncomputable def EBCompare : Env := {
 orc := fun g => cond (Nat.beq g 116) SBACompare (fun _ _ => Tree.fail)
 pre := fun g => cond (Nat.beq g 116) preBACompare (fun _ _ => true)
 glob := glVal
 nt := 8
}
theorem loopsBCompare : ∀ c, Tryd.f71.body = some c -> LoopsOk Tryd.prog (EBCompare) 40 c := by
 intro c hc
 cases hc
 exact noneL_ok _ (by kernel_rfl)
noncomputable def gBCompare (a : LI) (b : LI) : OO :=
 cond (bytesOk a && bytesOk b) (
 let r1 : Int := listCmp a b
 some (.ret [.cl (.int .i64 r1)] [])) none
theorem gBCompare_eq (a : LI) (b : LI) : bodyK Tryd.prog (EBCompare) 40 false Tryd.f71 [.cl (.sli .u8 a), .cl (.sli .u8 b)] [] = gBCompare a b := by kernel_rfl

noncomputable def EOLess : Env := {
 orc := fun g => cond (Nat.beq g 71) SBCompare (fun _ _ => Tree.fail)
 pre := fun g => cond (Nat.beq g 71) preBCompare (fun _ _ => true)
 glob := glVal
 nt := 9
}
theorem loopsOLess : ∀ c, Tryd.f163.body = some c -> LoopsOk Tryd.prog (EOLess) 40 c := by
 intro c hc
 cases hc
 exact noneL_ok _ (by kernel_rfl)
noncomputable def gOLess (a : LI) (b : LI) : OO :=
 cond (bytesOk a && bytesOk b) (
 let r1 : Int := listCmp a b
 some (.ret [.cl (.bool (decide (r1 <= 0)))] [])) none
theorem gOLess_eq (a : LI) (b : LI) : bodyK Tryd.prog (EOLess) 40 false Tryd.f163 [.cl (.sli .u8 a), .cl (.sli .u8 b)] [] = gOLess a b := by kernel_rfl

abbrev zOSteps0 := LC -> Int -> Int -> LC -> Int -> LC -> Int -> Int -> LC -> Nat -> LI -> LC -> Int -> LC -> Nat -> LI -> Bool -> OO
abbrev zOSteps1 := LC -> Int -> Int -> LC -> Int -> OO
noncomputable def lpOSteps_2s (again : LC -> Int -> OO) (k0 : zOSteps0) (k1 : zOSteps1) (v1 : LC) (v2 : Int) : OO :=
 cond (decide (v2 < ((v1.length : Nat) : Int))) (
 let x1 : Int := IntKind.i64.wrap (v2 - 1)
 cond (decide ((0 : Int) <= x1)) (
 cond (decide (x1 < ((v1.length : Nat) : Int))) (
 Option.bind (v1[(Int.toNat x1)]?) fun (e2 : CV) =>
 let e3 : CV := (cell1 e2).getD 0 .nili
 cond (okSli .u8 e3) (
 let l4 : LI := cvSli e3
 cond (decide ((0 : Int) <= v2)) (
 cond (decide (v2 < ((v1.length : Nat) : Int))) (
 Option.bind (v1[(Int.toNat v2)]?) fun (e5 : CV) =>
 let e6 : CV := (cell1 e5).getD 0 .nili
 cond (okSli .u8 e6) (
 let l7 : LI := cvSli e6
 cond (bytesOk l4 && bytesOk l7) (
 let r8 : Bool := decide (listCmp l4 l7 <= 0)
 cond (!r8) (
 k0 v1 v2 v2 v1 ((v1.length : Nat) : Int) v1 v2 x1 v1 (Int.toNat x1) l4 v1 v2 v1 (Int.toNat v2) l7 r8)
 (
 let x9 : Int := IntKind.i64.wrap (v2 + 1)
 again v1 x9)) none) none) none) none) none) none) none)
 (
 k1 v1 v2 v2 v1 ((v1.length : Nat) : Int))
noncomputable def lpOSteps_2 (k0 : zOSteps0) (k1 : zOSteps1) : Nat -> LC -> Int -> OO
 | 0 => fun _ _ => none
 | n + 1 => lpOSteps_2s (lpOSteps_2 k0 k1 n) k0 k1
noncomputable def clpOSteps_2_0 (k : KT) : zOSteps0 := fun y1 y2 y3 y4 y5 y6 y7 y8 y9 y10 y11 y12 y13 y14 y15 y16 y17 => k .ret ⟨[(0, qG 1 y1), (1, .cl (.fn (.func 163) [] [])), (4, qB false), (5, qI y2), (6, qI y3), (7, qG 1 y4), (8, qI y5), (9, qB true), (12, .cl (.fn (.func 163) [] [])), (13, qG 1 y6), (14, qI y7), (15, qI y8), (16, .cl (.vp (.slg 1 y9) y10 0)), (17, qS y11), (18, qG 1 y12), (19, qI y13), (20, .cl (.vp (.slg 1 y14) y15 0)), (21, qS y16), (22, qB y17), (23, qB true)], []⟩
noncomputable def clpOSteps_2_1 (k : KT) : zOSteps1 := fun y1 y2 y3 y4 y5 => k (.exit 0) ⟨[(0, qG 1 y1), (1, .cl (.fn (.func 163) [] [])), (5, qI y2), (6, qI y3), (7, qG 1 y4), (8, qI y5), (9, qB false)], []⟩
noncomputable def LOSteps_2 : St -> (KT) -> OO := fun σ k => match σ with
 | ⟨[(q1, .cl (.slg q2 v1)), (q3, .cl (.fn (.func q4) [] [])), (q5, .cl (.int .i64 v2))], []⟩ => cond (Nat.beq q1 0 && Nat.beq q2 1 && Nat.beq q3 1 && Nat.beq q4 163 && Nat.beq q5 5) (shut (lpOSteps_2 (clpOSteps_2_0 k) (clpOSteps_2_1 k) FUEL) v1 v2) none
 | _ => none
noncomputable def EOSteps : Env := {
 orc := fun g => cond (Nat.beq g 163) SOLess (fun _ _ => Tree.fail)
 pre := fun g => cond (Nat.beq g 163) preOLess (fun _ _ => true)
 live := fun r => cond (Nat.beq r 2) ([0, 1, 5]) ([])
 glob := glVal
 nt := 24
 lp := fun r => cond (Nat.beq r 2) (some (LOSteps_2)) (none)
}
noncomputable def blpOSteps_2 : Code := (Cd.fst (Cd.fst (Cd.snd (Cd.fst (Cd.snd (Tryd.f162.body.getD .skip))))))
theorem lpOSteps_2_step (k : KT) (n : Nat) (v1 : LC) (v2 : Int) : iterK (n + 1) (codeK Tryd.prog (EOSteps) 40 blpOSteps_2) (head (EOSteps) 2) ⟨[(0, qG 1 v1), (1, .cl (.fn (.func 163) [] [])), (5, qI v2)], []⟩ k = lpOSteps_2s (fun v1 v2 => iterK n (codeK Tryd.prog (EOSteps) 40 blpOSteps_2) (head (EOSteps) 2) ⟨[(0, qG 1 v1), (1, .cl (.fn (.func 163) [] [])), (5, qI v2)], []⟩ k) (clpOSteps_2_0 k) (clpOSteps_2_1 k) v1 v2 := by kernel_rfl
theorem lpOSteps_2_eq (k : KT) : ∀ (n : Nat), ∀ (v1 : LC) (v2 : Int), iterK n (codeK Tryd.prog (EOSteps) 40 blpOSteps_2) (head (EOSteps) 2) ⟨[(0, qG 1 v1), (1, .cl (.fn (.func 163) [] [])), (5, qI v2)], []⟩ k = lpOSteps_2 (clpOSteps_2_0 k) (clpOSteps_2_1 k) n v1 v2
 | 0 => by intros; rfl
 | n + 1 => by
  intros
  rw [lpOSteps_2_step]
  have ih := lpOSteps_2_eq k n
  simp only [lpOSteps_2, ih]
theorem LOSteps_2_ok : ∀ (σ : St) (k : KT) (r : Out), LOSteps_2 σ k = some r -> ∃ n, iterK n (codeK Tryd.prog (EOSteps) 40 blpOSteps_2) (head (EOSteps) 2) σ k = some r := by
 intro σ k r h
 unfold LOSteps_2 at h
 split at h
 ·replace h := cond_some h
  obtain ⟨hc, h⟩ := h
  simp only [Bool.and_eq_true, beq_prop, decide_eq_true_eq, Bool.not_eq_true'] at hc
  obtain ⟨⟨⟨⟨rfl, rfl⟩, rfl⟩, rfl⟩, rfl⟩ := hc
  rw [shut_eq] at h
  exact ⟨FUEL, (lpOSteps_2_eq k FUEL _ _ ).trans h⟩
 ·cases h
theorem loopsOSteps : ∀ c, Tryd.f162.body = some c -> LoopsOk Tryd.prog (EOSteps) 40 c := by
 intro c hc
 cases hc
 exact ⟨trivial, ⟨⟨trivial, ⟨noneL_ok _ (by kernel_rfl), lp_some rfl (LOSteps_2_ok)⟩, jn_none rfl⟩, ⟨trivial, trivial, jn_none rfl⟩, jn_none rfl⟩, jn_none rfl⟩
noncomputable def gOSteps (l : LC) : OO :=
 shut (lpOSteps_2
 (fun y1 y2 y3 y4 y5 y6 y7 y8 y9 y10 y11 y12 y13 y14 y15 y16 y17 =>
 some (.ret [.cl (.bool false)] []))
 (fun y18 y19 y20 y21 y22 =>
 some (.ret [.cl (.bool true)] []))
 FUEL) l 1
theorem gOSteps_eq (l : LC) : bodyK Tryd.prog (EOSteps) 40 false Tryd.f162 [.cl (.slg 1 l), .cl (.fn (.func 163) [] [])] [] = gOSteps l := by kernel_rfl

noncomputable def EOSorted : Env := {
 orc := fun g => cond (Nat.beq g 162) SOSteps (cond (Nat.beq g 163) SOLess (fun _ _ => Tree.fail))
 pre := fun g => cond (Nat.beq g 162) preOSteps (cond (Nat.beq g 163) preOLess (fun _ _ => true))
 glob := glVal
 nt := 5
}
theorem loopsOSorted : ∀ c, Tryd.f150.body = some c -> LoopsOk Tryd.prog (EOSorted) 40 c := by
 intro c hc
 cases hc
 exact noneL_ok _ (by kernel_rfl)
noncomputable def gOSorted (l : LC) : OO :=
 cond (rowsOk l) (
 let r1 : Bool := rowsSorted l
 some (.ret [.cl (.bool r1)] [])) none
theorem gOSorted_eq (l : LC) : bodyK Tryd.prog (EOSorted) 40 false Tryd.f150 [.cl (.slg 1 l)] [] = gOSorted l := by kernel_rfl

abbrev zRSmall0 := Int -> Int -> Int -> LC -> Int -> Bool -> Int -> Bool -> Int -> LI -> LC -> OO
abbrev zRSmall1 := Int -> Int -> Int -> LC -> Int -> Bool -> Int -> LI -> LC -> OO
noncomputable def lpRSmall_3s (rk : Nat) (again : Int -> Int -> Int -> LI -> LC -> OO) (k0 : zRSmall0) (k1 : zRSmall1) (v1 v2 v3 : Int) (v4 : LI) (v5 : LC) : OO :=
 cond (decide (v2 < ((v5.length : Nat) : Int))) (
 cond (decide ((0 : Int) <= v1)) (
 cond (decide ((0 : Int) <= v2)) (
 cond (decide (v2 < ((v5.length : Nat) : Int))) (
 Option.bind (v5[(Int.toNat v2)]?) fun (e4 : CV) =>
 let e5 : CV := (cell1 e4).headD .nili
 let e6 : CV := (cell1 e4).tail.headD .nili
 let e7 : CV := (cell1 e4).tail.tail.headD .nili
 cond (okInt .i64 e5 && (okSli .u8 e6 && (okSlg 3 e7 && true))) (
 let i8 : Int := cvInt e5
 let l9 : LI := cvSli e6
 let l10 : LC := cvSlg e7
 cond (isTr rk [.int .i64 i8, .sli .u8 l9, .slg 3 l10] && leftOk v1) (
 let r11 : Int := ndSmall [.int .i64 i8, .sli .u8 l9, .slg 3 l10] v1
 let x12 : Int := IntKind.i64.wrap (v2 + 1)
 again r11 x12 v3 v4 v5) none) none) none) none)
 (
 k0 v1 v2 v2 v5 ((v5.length : Nat) : Int) (decide (v2 < ((v5.length : Nat) : Int))) v1 (decide ((0 : Int) <= v1)) v3 v4 v5))
 (
 k1 v1 v2 v2 v5 ((v5.length : Nat) : Int) (decide (v2 < ((v5.length : Nat) : Int))) v3 v4 v5)
noncomputable def lpRSmall_3 (rk : Nat) (k0 : zRSmall0) (k1 : zRSmall1) : Nat -> Int -> Int -> Int -> LI -> LC -> OO
 | 0 => fun _ _ _ _ _ => none
 | n + 1 => lpRSmall_3s rk (lpRSmall_3 rk k0 k1 n) k0 k1
noncomputable def clpRSmall_3_0 (k : KT) : zRSmall0 := fun y1 y2 y3 y4 y5 y6 y7 y8 y9 y10 y11 => k (.exit 0) ⟨[(1, qI y1), (2, .ptr 66 0 0), (5, qI y2), (13, qI y3), (14, .ptr 66 0 2), (15, qG 3 y4), (16, qI y5), (17, qB y6), (18, qB true), (19, qI y7), (20, qB y8), (21, qB false)], [(66, ⟨.var [qI y9, qS y10, qG 3 y11], false⟩)]⟩
noncomputable def clpRSmall_3_1 (k : KT) : zRSmall1 := fun y1 y2 y3 y4 y5 y6 y7 y8 y9 => k (.exit 0) ⟨[(1, qI y1), (2, .ptr 66 0 0), (5, qI y2), (13, qI y3), (14, .ptr 66 0 2), (15, qG 3 y4), (16, qI y5), (17, qB y6), (18, qB false), (19, .tup []), (20, .tup []), (21, qB false)], [(66, ⟨.var [qI y7, qS y8, qG 3 y9], false⟩)]⟩
noncomputable def LRSmall_3 (rk : Nat) : St -> (KT) -> OO := fun σ k => match σ with
 | ⟨[(q1, .cl (.int .i64 v1)), (q2, .ptr q3 q4 q5), (q6, .cl (.int .i64 v2))], [(q7, ⟨.var [.cl (.int .i64 v3), .cl (.sli .u8 v4), .cl (.slg q8 v5)], false⟩)]⟩ => cond (Nat.beq q1 1 && Nat.beq q2 2 && Nat.beq q3 66 && Nat.beq q4 0 && Nat.beq q5 0 && Nat.beq q6 5 && Nat.beq q7 66 && Nat.beq q8 3) (shut (lpRSmall_3 rk (clpRSmall_3_0 k) (clpRSmall_3_1 k) FUEL) v1 v2 v3 v4 v5) none
 | _ => none
noncomputable def ERSmall (rk : Nat) : Env := {
 orc := fun g => cond (Nat.beq g 54) SRSmall (fun _ _ => Tree.fail)
 pre := fun g => cond (Nat.beq g 54) (preRRSmall (rk)) (fun _ _ => true)
 live := fun r => cond (Nat.beq r 3) ([1, 2, 5]) ([])
 glob := glVal
 nt := 32
 lp := fun r => cond (Nat.beq r 3) (some (LRSmall_3 rk)) (none)
}
noncomputable def blpRSmall_3 : Code := (Cd.fst (Cd.fst (Cd.snd (Cd.fst (Cd.snd (Cd.snd (Tryd.f54.body.getD .skip)))))))
theorem lpRSmall_3_step (rk : Nat) (k : KT) (n : Nat) (v1 v2 v3 : Int) (v4 : LI) (v5 : LC) : iterK (n + 1) (codeK Tryd.prog (ERSmall rk) 40 blpRSmall_3) (head (ERSmall rk) 3) ⟨[(1, qI v1), (2, .ptr 66 0 0), (5, qI v2)], [(66, ⟨.var [qI v3, qS v4, qG 3 v5], false⟩)]⟩ k = lpRSmall_3s rk (fun v1 v2 v3 v4 v5 => iterK n (codeK Tryd.prog (ERSmall rk) 40 blpRSmall_3) (head (ERSmall rk) 3) ⟨[(1, qI v1), (2, .ptr 66 0 0), (5, qI v2)], [(66, ⟨.var [qI v3, qS v4, qG 3 v5], false⟩)]⟩ k) (clpRSmall_3_0 k) (clpRSmall_3_1 k) v1 v2 v3 v4 v5 := by kernel_rfl
theorem lpRSmall_3_eq (rk : Nat) (k : KT) : ∀ (n : Nat), ∀ (v1 v2 v3 : Int) (v4 : LI) (v5 : LC), iterK n (codeK Tryd.prog (ERSmall rk) 40 blpRSmall_3) (head (ERSmall rk) 3) ⟨[(1, qI v1), (2, .ptr 66 0 0), (5, qI v2)], [(66, ⟨.var [qI v3, qS v4, qG 3 v5], false⟩)]⟩ k = lpRSmall_3 rk (clpRSmall_3_0 k) (clpRSmall_3_1 k) n v1 v2 v3 v4 v5
 | 0 => by intros; rfl
 | n + 1 => by
  intros
  rw [lpRSmall_3_step]
  have ih := lpRSmall_3_eq rk k n
  simp only [lpRSmall_3, ih]
theorem LRSmall_3_ok (rk : Nat) : ∀ (σ : St) (k : KT) (r : Out), LRSmall_3 rk σ k = some r -> ∃ n, iterK n (codeK Tryd.prog (ERSmall rk) 40 blpRSmall_3) (head (ERSmall rk) 3) σ k = some r := by
 intro σ k r h
 unfold LRSmall_3 at h
 split at h
 ·replace h := cond_some h
  obtain ⟨hc, h⟩ := h
  simp only [Bool.and_eq_true, beq_prop, decide_eq_true_eq, Bool.not_eq_true'] at hc
  obtain ⟨⟨⟨⟨⟨⟨⟨rfl, rfl⟩, rfl⟩, rfl⟩, rfl⟩, rfl⟩, rfl⟩, rfl⟩ := hc
  rw [shut_eq] at h
  exact ⟨FUEL, (lpRSmall_3_eq rk k FUEL _ _ _ _ _ ).trans h⟩
 ·cases h
theorem loopsRSmall (rk : Nat) : ∀ c, Tryd.f54.body = some c -> LoopsOk Tryd.prog (ERSmall rk) 40 c := by
 intro c hc
 cases hc
 exact ⟨trivial, ⟨trivial, ⟨⟨trivial, ⟨noneL_ok _ (by kernel_rfl), lp_some rfl (LRSmall_3_ok rk)⟩, jn_none rfl⟩, ⟨trivial, trivial, jn_none rfl⟩, jn_none rfl⟩, jn_none rfl⟩, jn_none rfl⟩
noncomputable def gRSmall (rk : Nat) (ta : Int) (ba : LI) (ka : LC) (left : Int) : OO :=
 let x1 : Int := IntKind.i64.wrap (left - 1)
 let x2 : Int := cond (decide ((1048576 : Int) < ((ba.length : Nat) : Int))) 1048576 ((ba.length : Nat) : Int)
 let x3 : Int := IntKind.i64.wrap (x1 - x2)
 shut (lpRSmall_3 rk
 (fun y4 y5 y6 y7 y8 y9 y10 y11 y12 y13 y14 =>
 some (.ret [.cl (.int .i64 y4)] []))
 (fun y15 y16 y17 y18 y19 y20 y21 y22 y23 =>
 some (.ret [.cl (.int .i64 y15)] []))
 FUEL) x3 0 ta ba ka
theorem gRSmall_eq (rk : Nat) (ta : Int) (ba : LI) (ka : LC) (left : Int) : bodyK Tryd.prog (ERSmall rk) 40 false Tryd.f54 [.cl (.agg [.int .i64 ta, .sli .u8 ba, .slg 3 ka]), .cl (.int .i64 left)] [] = gRSmall rk ta ba ka left := by kernel_rfl

abbrev zDSize0 := Int -> Int -> LC -> Int -> Int -> OO
abbrev zDSize1 := Int -> Int -> Int -> LC -> Int -> Int -> LC -> Nat -> Int -> LI -> LC -> Int -> LI -> LC -> Int -> Int -> Int -> Int -> Int -> Int -> Int -> Bool -> Int -> LI -> LC -> OO
abbrev zDSize2 := Int -> Int -> Int -> LC -> Int -> Int -> LC -> Nat -> Int -> LI -> LC -> Int -> LI -> LC -> Int -> Int -> Int -> Int -> Int -> Int -> Int -> Bool -> Int -> Bool -> Int -> LI -> LC -> OO
noncomputable def lpDSize_8s (rk : Nat) (again : zDSize0) (k0 : zDSize1) (k1 : zDSize2) (k2 : zDSize0) (v1 v2 : Int) (v3 : LC) (v4 v5 : Int) : OO :=
 cond (decide (v5 < v4)) (
 cond (decide ((0 : Int) <= v5)) (
 cond (decide (v5 < ((v3.length : Nat) : Int))) (
 Option.bind (v3[(Int.toNat v5)]?) fun (e3 : CV) =>
 let e4 : CV := (cell1 e3).headD .nili
 let e5 : CV := (cell1 e3).tail.headD .nili
 let e6 : CV := (cell1 e3).tail.tail.headD .nili
 cond (okInt .i64 e4 && (okSli .u8 e5 && (okSlg 3 e6 && true))) (
 let i7 : Int := cvInt e4
 let l8 : LI := cvSli e5
 let l9 : LC := cvSlg e6
 let x10 : Int := IntKind.i64.wrap (v1 - 1)
 cond (isSr rk [.int .i64 i7, .sli .u8 l8, .slg 3 l9] && deepOk x10) (
 let r11 : Int := ndSize [.int .i64 i7, .sli .u8 l8, .slg 3 l9] x10
 let x12 : Int := IntKind.i64.wrap (v2 + r11)
 cond (decide (r11 < 0)) (
 k0 v1 x12 r11 v3 v4 v5 v3 (Int.toNat v5) i7 l8 l9 i7 l8 l9 v1 x10 r11 v2 r11 x12 r11 (decide (r11 < 0)) i7 l8 l9)
 (
 cond (decide ((1048576 : Int) < x12)) (
 k1 v1 x12 r11 v3 v4 v5 v3 (Int.toNat v5) i7 l8 l9 i7 l8 l9 v1 x10 r11 v2 r11 x12 r11 (decide (r11 < 0)) x12 (decide ((1048576 : Int) < x12)) i7 l8 l9)
 (
 let x13 : Int := IntKind.i64.wrap (v5 + 1)
 again v1 x12 v3 v4 x13))) none) none) none) none)
 (
 k2 v1 v2 v3 v4 v5)
noncomputable def lpDSize_8 (rk : Nat) (k0 : zDSize1) (k1 : zDSize2) (k2 : zDSize0) : Nat -> Int -> Int -> LC -> Int -> Int -> OO
 | 0 => fun _ _ _ _ _ => none
 | n + 1 => lpDSize_8s rk (lpDSize_8 rk k0 k1 k2 n) k0 k1 k2
noncomputable def clpDSize_8_0 (k : KT) : zDSize1 := fun y1 y2 y3 y4 y5 y6 y7 y8 y9 y10 y11 y12 y13 y14 y15 y16 y17 y18 y19 y20 y21 y22 y23 y24 y25 => k .ret ⟨[(1, qI y1), (4, .cl (.int .i64 (-1))), (5, qI y2), (7, .ptr 71 0 0), (8, qI y3), (26, qG 3 y4), (27, qI y5), (28, qI y6), (29, qB true), (30, .cl (.vp (.slg 3 y7) y8 0)), (31, .cl (.agg [.int .i64 y9, .sli .u8 y10, .slg 3 y11])), (32, .cl (.agg [.int .i64 y12, .sli .u8 y13, .slg 3 y14])), (33, qI y15), (34, qI y16), (35, qI y17), (36, qI y18), (37, qI y19), (38, qI y20), (39, qI y21), (40, qB y22), (41, qB true), (42, .tup []), (43, .tup []), (44, qB true)], [(71, ⟨.var [qI y23, qS y24, qG 3 y25], false⟩)]⟩
noncomputable def clpDSize_8_1 (k : KT) : zDSize2 := fun y1 y2 y3 y4 y5 y6 y7 y8 y9 y10 y11 y12 y13 y14 y15 y16 y17 y18 y19 y20 y21 y22 y23 y24 y25 y26 y27 => k .ret ⟨[(1, qI y1), (4, .cl (.int .i64 (-1))), (5, qI y2), (7, .ptr 71 0 0), (8, qI y3), (26, qG 3 y4), (27, qI y5), (28, qI y6), (29, qB true), (30, .cl (.vp (.slg 3 y7) y8 0)), (31, .cl (.agg [.int .i64 y9, .sli .u8 y10, .slg 3 y11])), (32, .cl (.agg [.int .i64 y12, .sli .u8 y13, .slg 3 y14])), (33, qI y15), (34, qI y16), (35, qI y17), (36, qI y18), (37, qI y19), (38, qI y20), (39, qI y21), (40, qB y22), (41, qB false), (42, qI y23), (43, qB y24), (44, qB true)], [(71, ⟨.var [qI y25, qS y26, qG 3 y27], false⟩)]⟩
noncomputable def clpDSize_8_2 (k : KT) : zDSize0 := fun y1 y2 y3 y4 y5 => k (.exit 0) ⟨[(1, qI y1), (5, qI y2), (26, qG 3 y3), (27, qI y4), (28, qI y5), (29, qB false)], []⟩
noncomputable def LDSize_8 (rk : Nat) : St -> (KT) -> OO := fun σ k => match σ with
 | ⟨[(q1, .cl (.int .i64 v1)), (q2, .cl (.int .i64 v2)), (q3, .cl (.slg q4 v3)), (q5, .cl (.int .i64 v4)), (q6, .cl (.int .i64 v5))], []⟩ => cond (Nat.beq q1 1 && Nat.beq q2 5 && Nat.beq q3 26 && Nat.beq q4 3 && Nat.beq q5 27 && Nat.beq q6 28) (shut (lpDSize_8 rk (clpDSize_8_0 k) (clpDSize_8_1 k) (clpDSize_8_2 k) FUEL) v1 v2 v3 v4 v5) none
 | _ => none
noncomputable def EDSize (rk : Nat) : Env := {
 orc := fun g => cond (Nat.beq g 100) SDBoxed (cond (Nat.beq g 113) SDSize (cond (Nat.beq g 146) SDKnown (cond (Nat.beq g 147) SDFits (cond (Nat.beq g 148) SDLenSize (fun _ _ => Tree.fail)))))
 pre := fun g => cond (Nat.beq g 100) preDBoxed (cond (Nat.beq g 113) (preRDSize (rk)) (cond (Nat.beq g 146) preDKnown (cond (Nat.beq g 147) preDFits (cond (Nat.beq g 148) preDLenSize (fun _ _ => true)))))
 live := fun r => cond (Nat.beq r 8) ([1, 5, 26, 27, 28]) ([])
 glob := glVal
 nt := 67
 lp := fun r => cond (Nat.beq r 8) (some (LDSize_8 rk)) (none)
}
noncomputable def blpDSize_8 : Code := (Cd.fst (Cd.fst (Cd.snd (Cd.snd (Cd.fst (Cd.snd (Cd.fst (Cd.snd (Cd.snd (Cd.snd (Tryd.f113.body.getD .skip)))))))))))
theorem lpDSize_8_step (rk : Nat) (k : KT) (n : Nat) (v1 v2 : Int) (v3 : LC) (v4 v5 : Int) : iterK (n + 1) (codeK Tryd.prog (EDSize rk) 40 blpDSize_8) (head (EDSize rk) 8) ⟨[(1, qI v1), (5, qI v2), (26, qG 3 v3), (27, qI v4), (28, qI v5)], []⟩ k = lpDSize_8s rk (fun v1 v2 v3 v4 v5 => iterK n (codeK Tryd.prog (EDSize rk) 40 blpDSize_8) (head (EDSize rk) 8) ⟨[(1, qI v1), (5, qI v2), (26, qG 3 v3), (27, qI v4), (28, qI v5)], []⟩ k) (clpDSize_8_0 k) (clpDSize_8_1 k) (clpDSize_8_2 k) v1 v2 v3 v4 v5 := by kernel_rfl
theorem lpDSize_8_eq (rk : Nat) (k : KT) : ∀ (n : Nat), ∀ (v1 v2 : Int) (v3 : LC) (v4 v5 : Int), iterK n (codeK Tryd.prog (EDSize rk) 40 blpDSize_8) (head (EDSize rk) 8) ⟨[(1, qI v1), (5, qI v2), (26, qG 3 v3), (27, qI v4), (28, qI v5)], []⟩ k = lpDSize_8 rk (clpDSize_8_0 k) (clpDSize_8_1 k) (clpDSize_8_2 k) n v1 v2 v3 v4 v5
 | 0 => by intros; rfl
 | n + 1 => by
  intros
  rw [lpDSize_8_step]
  have ih := lpDSize_8_eq rk k n
  simp only [lpDSize_8, ih]
theorem LDSize_8_ok (rk : Nat) : ∀ (σ : St) (k : KT) (r : Out), LDSize_8 rk σ k = some r -> ∃ n, iterK n (codeK Tryd.prog (EDSize rk) 40 blpDSize_8) (head (EDSize rk) 8) σ k = some r := by
 intro σ k r h
 unfold LDSize_8 at h
 split at h
 ·replace h := cond_some h
  obtain ⟨hc, h⟩ := h
  simp only [Bool.and_eq_true, beq_prop, decide_eq_true_eq, Bool.not_eq_true'] at hc
  obtain ⟨⟨⟨⟨⟨rfl, rfl⟩, rfl⟩, rfl⟩, rfl⟩, rfl⟩ := hc
  rw [shut_eq] at h
  exact ⟨FUEL, (lpDSize_8_eq rk k FUEL _ _ _ _ _ ).trans h⟩
 ·cases h
theorem loopsDSize (rk : Nat) : ∀ c, Tryd.f113.body = some c -> LoopsOk Tryd.prog (EDSize rk) 40 c := by
 intro c hc
 cases hc
 exact ⟨trivial, ⟨noneL_ok _ (by kernel_rfl), ⟨trivial, ⟨⟨trivial, ⟨⟨noneL_ok _ (by kernel_rfl), ⟨trivial, ⟨noneL_ok _ (by kernel_rfl), lp_some rfl (LDSize_8_ok rk)⟩, jn_none rfl⟩, jn_none rfl⟩, noneL_ok _ (by kernel_rfl), jn_none rfl⟩, jn_none rfl⟩, ⟨trivial, trivial, jn_none rfl⟩, jn_none rfl⟩, jn_none rfl⟩, jn_none rfl⟩, jn_none rfl⟩
noncomputable def gDSize (rk : Nat) (ta : Int) (ba : LI) (ka : LC) (deep : Int) : OO :=
 cond (decide (deep = 0)) (
 some (.ret [.cl (.int .i64 (-1))] []))
 (
 let r1 : Bool := derKnown ta
 cond (!r1) (
 some (.ret [.cl (.int .i64 (-1))] []))
 (
 let r2 : Bool := derBoxed ta
 cond (r2) (
 cond (decide ((0 : Int) < ((ba.length : Nat) : Int))) (
 some (.ret [.cl (.int .i64 (-1))] []))
 (
 shut (lpDSize_8 rk
 (fun y3 y4 y5 y6 y7 y8 y9 y10 y11 y12 y13 y14 y15 y16 y17 y18 y19 y20 y21 y22 y23 y24 y25 y26 y27 =>
 some (.ret [.cl (.int .i64 (-1))] []))
 (fun y28 y29 y30 y31 y32 y33 y34 y35 y36 y37 y38 y39 y40 y41 y42 y43 y44 y45 y46 y47 y48 y49 y50 y51 y52 y53 y54 =>
 some (.ret [.cl (.int .i64 (-1))] []))
 (fun y55 y56 y57 y58 y59 =>
 let r60 : Int := derLenSize y56
 let x61 : Int := IntKind.i64.wrap ((1 : Int) + r60)
 let x62 : Int := IntKind.i64.wrap (x61 + y56)
 some (.ret [.cl (.int .i64 x62)] []))
 FUEL) deep ((ba.length : Nat) : Int) ka ((ka.length : Nat) : Int) 0))
 (
 cond (decide ((0 : Int) < ((ka.length : Nat) : Int))) (
 some (.ret [.cl (.int .i64 (-1))] []))
 (
 cond (decide ((1048576 : Int) < ((ba.length : Nat) : Int))) (
 some (.ret [.cl (.int .i64 (-1))] []))
 (
 cond (bytesOk ba) (
 let r63 : Bool := derFits ta ba
 cond (!r63) (
 some (.ret [.cl (.int .i64 (-1))] []))
 (
 let r64 : Int := derLenSize ((ba.length : Nat) : Int)
 let x65 : Int := IntKind.i64.wrap ((1 : Int) + r64)
 let x66 : Int := IntKind.i64.wrap (x65 + ((ba.length : Nat) : Int))
 some (.ret [.cl (.int .i64 x66)] []))) none)))))
theorem gDSize_eq (rk : Nat) (ta : Int) (ba : LI) (ka : LC) (deep : Int) : bodyK Tryd.prog (EDSize rk) 40 false Tryd.f113 [.cl (.agg [.int .i64 ta, .sli .u8 ba, .slg 3 ka]), .cl (.int .i64 deep)] [] = gDSize rk ta ba ka deep := by kernel_rfl

abbrev zDPut0 := Nat -> Int -> Int -> Int -> LI -> OO
noncomputable def lpDPut_7s (again : Nat -> Int -> Int -> LI -> OO) (k0 : zDPut0) (v1 : Nat) (v2 v3 : Int) (v4 : LI) : OO :=
 cond (decide ((0 : Int) <= v3)) (
 let x8 : Int := IntKind.i64.wrap ((8 : Int) * v3)
 cond (decide (x8 < 0)) none (
 let x9 : Int := Int.fdiv v2 (2 ^ (min x8.toNat 64))
 let x10 : Int := IntKind.u8.wrap x9
 let l11 : LI := v4 ++ [x10]
 cond (Nat.ble (l11.length * 1) LIMN) (
 cond (Nat.ble l11.length LIMN) (
 let x12 : Int := IntKind.i64.wrap (v3 - 1)
 again l11.length v2 x12 l11) none) none))
 (
 k0 v1 v2 v3 v3 v4)
noncomputable def lpDPut_7 (k0 : zDPut0) : Nat -> Nat -> Int -> Int -> LI -> OO
 | 0 => fun _ _ _ _ => none
 | n + 1 => lpDPut_7s (lpDPut_7 k0 n) k0
noncomputable def clpDPut_7_0 (k : KT) : zDPut0 := fun y1 y2 y3 y4 y5 => k (.exit 0) ⟨[(0, .ref 93 0 y1 true 1), (2, qI y2), (8, qI y3), (32, qI y4), (33, qB false)], [(93, ⟨.ints .u8 y5, false⟩)]⟩
noncomputable def LDPut_7 : St -> (KT) -> OO := fun σ k => match σ with
 | ⟨[(q1, .ref q2 q3 v1 true q4), (q5, .cl (.int .i64 v2)), (q6, .cl (.int .i64 v3))], [(q7, ⟨.ints .u8 v4, false⟩)]⟩ => cond (Nat.beq q1 0 && Nat.beq q2 93 && Nat.beq q3 0 && Nat.beq q4 1 && Nat.beq q5 2 && Nat.beq q6 8 && Nat.beq q7 93) (shut (lpDPut_7 (clpDPut_7_0 k) FUEL) v1 v2 v3 v4) none
 | _ => none
noncomputable def EDPut : Env := {
 orc := fun g => cond (Nat.beq g 148) SDLenSize (fun _ _ => Tree.fail)
 pre := fun g => cond (Nat.beq g 148) preDLenSize (fun _ _ => true)
 live := fun r => cond (Nat.beq r 7) ([0, 2, 8]) ([])
 ren := fun r => cond (Nat.beq r 7) ([(107, 93)]) ([])
 glob := glVal
 nt := 45
 lp := fun r => cond (Nat.beq r 7) (some (LDPut_7)) (none)
}
noncomputable def blpDPut_7 : Code := (Cd.fst (Cd.fst (Cd.snd (Cd.fst (Cd.snd (Cd.snd (Cd.snd (Cd.snd (Cd.snd (Tryd.f149.body.getD .skip))))))))))
theorem lpDPut_7_step (k : KT) (n : Nat) (v1 : Nat) (v2 v3 : Int) (v4 : LI) : iterK (n + 1) (codeK Tryd.prog (EDPut) 40 blpDPut_7) (head (EDPut) 7) ⟨[(0, .ref 93 0 v1 true 1), (2, qI v2), (8, qI v3)], [(93, ⟨.ints .u8 v4, false⟩)]⟩ k = lpDPut_7s (fun v1 v2 v3 v4 => iterK n (codeK Tryd.prog (EDPut) 40 blpDPut_7) (head (EDPut) 7) ⟨[(0, .ref 93 0 v1 true 1), (2, qI v2), (8, qI v3)], [(93, ⟨.ints .u8 v4, false⟩)]⟩ k) (clpDPut_7_0 k) v1 v2 v3 v4 := by kernel_rfl
theorem lpDPut_7_eq (k : KT) : ∀ (n : Nat), ∀ (v1 : Nat) (v2 v3 : Int) (v4 : LI), iterK n (codeK Tryd.prog (EDPut) 40 blpDPut_7) (head (EDPut) 7) ⟨[(0, .ref 93 0 v1 true 1), (2, qI v2), (8, qI v3)], [(93, ⟨.ints .u8 v4, false⟩)]⟩ k = lpDPut_7 (clpDPut_7_0 k) n v1 v2 v3 v4
 | 0 => by intros; rfl
 | n + 1 => by
  intros
  rw [lpDPut_7_step]
  have ih := lpDPut_7_eq k n
  simp only [lpDPut_7, ih]
theorem LDPut_7_ok : ∀ (σ : St) (k : KT) (r : Out), LDPut_7 σ k = some r -> ∃ n, iterK n (codeK Tryd.prog (EDPut) 40 blpDPut_7) (head (EDPut) 7) σ k = some r := by
 intro σ k r h
 unfold LDPut_7 at h
 split at h
 ·replace h := cond_some h
  obtain ⟨hc, h⟩ := h
  simp only [Bool.and_eq_true, beq_prop, decide_eq_true_eq, Bool.not_eq_true'] at hc
  obtain ⟨⟨⟨⟨⟨⟨rfl, rfl⟩, rfl⟩, rfl⟩, rfl⟩, rfl⟩, rfl⟩ := hc
  rw [shut_eq] at h
  exact ⟨FUEL, (lpDPut_7_eq k FUEL _ _ _ _ ).trans h⟩
 ·cases h
theorem loopsDPut : ∀ c, Tryd.f149.body = some c -> LoopsOk Tryd.prog (EDPut) 40 c := by
 intro c hc
 cases hc
 exact ⟨trivial, ⟨trivial, ⟨trivial, ⟨noneL_ok _ (by kernel_rfl), ⟨trivial, ⟨⟨trivial, ⟨noneL_ok _ (by kernel_rfl), lp_some rfl (LDPut_7_ok)⟩, jn_none rfl⟩, ⟨trivial, trivial, jn_none rfl⟩, jn_none rfl⟩, jn_none rfl⟩, jn_none rfl⟩, jn_none rfl⟩, jn_none rfl⟩, jn_none rfl⟩
noncomputable def gDPut (tag : Int) (n : Int) : OO :=
 let x1 : Int := IntKind.u8.wrap tag
 let r2 : Int := derLenSize n
 let x3 : Int := IntKind.i64.wrap (r2 - 1)
 cond (decide (x3 = 0)) (
 let x4 : Int := IntKind.u8.wrap n
 some (.ret [.ref 0 0 2 true 1] [some ⟨.ints .u8 [x1, x4], false⟩]))
 (
 let x5 : Int := IntKind.i64.wrap ((128 : Int) + x3)
 let x6 : Int := IntKind.u8.wrap x5
 let x7 : Int := IntKind.i64.wrap (x3 - 1)
 shut (lpDPut_7
 (fun y8 y9 y10 y11 y12 =>
 some (.ret [.ref 0 0 y8 true 1] [some ⟨.ints .u8 y12, false⟩]))
 FUEL) 2 n x7 [x1, x6])
theorem gDPut_eq (tag : Int) (n : Int) : bodyK Tryd.prog (EDPut) 40 true Tryd.f149 [.nils, .cl (.int .i64 tag), .cl (.int .i64 n)] [] = gDPut tag n := by kernel_rfl

noncomputable def ERHead : Env := {
 orc := fun _ => fun _ _ => Tree.fail
 pre := fun _ => fun _ _ => true
 glob := glVal
 nt := 50
}
theorem loopsRHead : ∀ c, Tryd.f143.body = some c -> LoopsOk Tryd.prog (ERHead) 40 c := by
 intro c hc
 cases hc
 exact noneL_ok _ (by kernel_rfl)
noncomputable def gRHead (tag : Int) (n : Int) : OO :=
 let x1 : Int := IntKind.u8.wrap tag
 cond (decide (n < 128)) (
 let x2 : Int := IntKind.u8.wrap n
 some (.ret [.ref 0 0 2 true 1] [some ⟨.ints .u8 [x1, x2], false⟩]))
 (
 cond (decide (n < 256)) (
 let x3 : Int := IntKind.u8.wrap n
 some (.ret [.ref 0 0 3 true 1] [some ⟨.ints .u8 [x1, 129, x3], false⟩]))
 (
 cond (decide (n < 65536)) (
 let x4 : Int := IntKind.i64.wrap (Int.tdiv n 256)
 let x5 : Int := IntKind.u8.wrap x4
 let x6 : Int := Int.tmod n 256
 let x7 : Int := IntKind.u8.wrap x6
 some (.ret [.ref 0 0 4 true 1] [some ⟨.ints .u8 [x1, 130, x5, x7], false⟩]))
 (
 let x8 : Int := IntKind.i64.wrap (Int.tdiv n 65536)
 let x9 : Int := IntKind.u8.wrap x8
 let x10 : Int := IntKind.i64.wrap (Int.tdiv n 256)
 let x11 : Int := Int.tmod x10 256
 let x12 : Int := IntKind.u8.wrap x11
 let x13 : Int := Int.tmod n 256
 let x14 : Int := IntKind.u8.wrap x13
 some (.ret [.ref 0 0 5 true 1] [some ⟨.ints .u8 [x1, 131, x9, x12, x14], false⟩]))))
theorem gRHead_eq (tag : Int) (n : Int) : bodyK Tryd.prog (ERHead) 40 true Tryd.f143 [.cl (.int .i64 tag), .cl (.int .i64 n)] [] = gRHead tag n := by kernel_rfl

abbrev zR1Join0 := LC -> Nat -> Int -> Int -> LC -> Int -> LI -> OO
noncomputable def lpR1Join_3s (again : LC -> Nat -> Int -> LI -> OO) (k0 : zR1Join0) (v1 : LC) (v2 : Nat) (v3 : Int) (v4 : LI) : OO :=
 cond (decide (v3 < ((v1.length : Nat) : Int))) (
 cond (decide ((0 : Int) <= v3)) (
 cond (decide (v3 < ((v1.length : Nat) : Int))) (
 Option.bind (v1[(Int.toNat v3)]?) fun (e1 : CV) =>
 let e2 : CV := (cell1 e1).getD 0 .nili
 cond (okSli .u8 e2) (
 let l3 : LI := cvSli e2
 let l4 : LI := v4 ++ l3
 cond (Nat.ble (l4.length * 1) LIMN) (
 cond (Nat.ble l4.length LIMN) (
 let x5 : Int := IntKind.i64.wrap (v3 + 1)
 again v1 l4.length x5 l4) none) none) none) none) none)
 (
 k0 v1 v2 v3 v3 v1 ((v1.length : Nat) : Int) v4)
noncomputable def lpR1Join_3 (k0 : zR1Join0) : Nat -> LC -> Nat -> Int -> LI -> OO
 | 0 => fun _ _ _ _ => none
 | n + 1 => lpR1Join_3s (lpR1Join_3 k0 n) k0
noncomputable def clpR1Join_3_0 (k : KT) : zR1Join0 := fun y1 y2 y3 y4 y5 y6 y7 => k (.exit 0) ⟨[(0, qG 1 y1), (3, .ref 67 0 y2 true 1), (4, qI y3), (5, qI y4), (6, qG 1 y5), (7, qI y6), (8, qB false)], [(67, ⟨.ints .u8 y7, false⟩)]⟩
noncomputable def LR1Join_3 : St -> (KT) -> OO := fun σ k => match σ with
 | ⟨[(q1, .cl (.slg q2 v1)), (q3, .ref q4 q5 v2 true q6), (q7, .cl (.int .i64 v3))], [(q8, ⟨.ints .u8 v4, false⟩)]⟩ => cond (Nat.beq q1 0 && Nat.beq q2 1 && Nat.beq q3 3 && Nat.beq q4 67 && Nat.beq q5 0 && Nat.beq q6 1 && Nat.beq q7 4 && Nat.beq q8 67) (shut (lpR1Join_3 (clpR1Join_3_0 k) FUEL) v1 v2 v3 v4) none
 | _ => none
noncomputable def ER1Join : Env := {
 orc := fun _ => fun _ _ => Tree.fail
 pre := fun _ => fun _ _ => true
 live := fun r => cond (Nat.beq r 3) ([0, 3, 4]) ([])
 ren := fun r => cond (Nat.beq r 3) ([(80, 67)]) ([])
 glob := glVal
 nt := 18
 lp := fun r => cond (Nat.beq r 3) (some (LR1Join_3)) (none)
}
noncomputable def blpR1Join_3 : Code := (Cd.fst (Cd.fst (Cd.snd (Cd.fst (Cd.snd (Cd.snd (Tryd.f145.body.getD .skip)))))))
theorem lpR1Join_3_step (k : KT) (n : Nat) (v1 : LC) (v2 : Nat) (v3 : Int) (v4 : LI) : iterK (n + 1) (codeK Tryd.prog (ER1Join) 40 blpR1Join_3) (head (ER1Join) 3) ⟨[(0, qG 1 v1), (3, .ref 67 0 v2 true 1), (4, qI v3)], [(67, ⟨.ints .u8 v4, false⟩)]⟩ k = lpR1Join_3s (fun v1 v2 v3 v4 => iterK n (codeK Tryd.prog (ER1Join) 40 blpR1Join_3) (head (ER1Join) 3) ⟨[(0, qG 1 v1), (3, .ref 67 0 v2 true 1), (4, qI v3)], [(67, ⟨.ints .u8 v4, false⟩)]⟩ k) (clpR1Join_3_0 k) v1 v2 v3 v4 := by kernel_rfl
theorem lpR1Join_3_eq (k : KT) : ∀ (n : Nat), ∀ (v1 : LC) (v2 : Nat) (v3 : Int) (v4 : LI), iterK n (codeK Tryd.prog (ER1Join) 40 blpR1Join_3) (head (ER1Join) 3) ⟨[(0, qG 1 v1), (3, .ref 67 0 v2 true 1), (4, qI v3)], [(67, ⟨.ints .u8 v4, false⟩)]⟩ k = lpR1Join_3 (clpR1Join_3_0 k) n v1 v2 v3 v4
 | 0 => by intros; rfl
 | n + 1 => by
  intros
  rw [lpR1Join_3_step]
  have ih := lpR1Join_3_eq k n
  simp only [lpR1Join_3, ih]
theorem LR1Join_3_ok : ∀ (σ : St) (k : KT) (r : Out), LR1Join_3 σ k = some r -> ∃ n, iterK n (codeK Tryd.prog (ER1Join) 40 blpR1Join_3) (head (ER1Join) 3) σ k = some r := by
 intro σ k r h
 unfold LR1Join_3 at h
 split at h
 ·replace h := cond_some h
  obtain ⟨hc, h⟩ := h
  simp only [Bool.and_eq_true, beq_prop, decide_eq_true_eq, Bool.not_eq_true'] at hc
  obtain ⟨⟨⟨⟨⟨⟨⟨rfl, rfl⟩, rfl⟩, rfl⟩, rfl⟩, rfl⟩, rfl⟩, rfl⟩ := hc
  rw [shut_eq] at h
  exact ⟨FUEL, (lpR1Join_3_eq k FUEL _ _ _ _ ).trans h⟩
 ·cases h
theorem loopsR1Join : ∀ c, Tryd.f145.body = some c -> LoopsOk Tryd.prog (ER1Join) 40 c := by
 intro c hc
 cases hc
 exact ⟨trivial, ⟨trivial, ⟨⟨trivial, ⟨noneL_ok _ (by kernel_rfl), lp_some rfl (LR1Join_3_ok)⟩, jn_none rfl⟩, ⟨trivial, trivial, jn_none rfl⟩, jn_none rfl⟩, jn_none rfl⟩, jn_none rfl⟩
noncomputable def gR1Join (l : LC) : OO :=
 shut (lpR1Join_3
 (fun y1 y2 y3 y4 y5 y6 y7 =>
 some (.ret [.cl (.sli .u8 y7)] []))
 FUEL) l 0 0 []
theorem gR1Join_eq (l : LC) : bodyK Tryd.prog (ER1Join) 40 false Tryd.f145 [.cl (.slg 1 l)] [] = gR1Join l := by kernel_rfl

abbrev zSConcat0 := LC -> Int -> LC -> Int -> Int -> OO
abbrev zSConcat1 := ByteArray -> LC -> Int -> LI -> LC -> Int -> Int -> LC -> Nat -> LI -> Int -> LI -> Int -> Int -> Int -> ByteArray -> OO
abbrev zSConcat2 := Nat -> LC -> Int -> Int -> LI -> OO
noncomputable def lpSConcat_3s (again : zSConcat0) (k0 : zSConcat1) (k1 : zSConcat0) (v1 : LC) (v2 : Int) (v3 : LC) (v4 v5 : Int) : OO :=
 cond (decide (v5 < v4)) (
 cond (decide ((0 : Int) <= v5)) (
 cond (decide (v5 < ((v3.length : Nat) : Int))) (
 Option.bind (v3[(Int.toNat v5)]?) fun (e1 : CV) =>
 let e2 : CV := (cell1 e1).getD 0 .nili
 cond (okSli .u8 e2) (
 let l3 : LI := cvSli e2
 let x4 : Int := IntKind.i64.wrap (v2 + ((l3.length : Nat) : Int))
 cond (decide (x4 < 0)) (
 k0 (⟨#[108, 101, 110, 32, 111, 117, 116, 32, 111, 102, 32, 114, 97, 110, 103, 101]⟩ : ByteArray) v1 x4 l3 v3 v4 v5 v3 (Int.toNat v5) l3 v2 l3 ((l3.length : Nat) : Int) x4 x4 (⟨#[108, 101, 110, 32, 111, 117, 116, 32, 111, 102, 32, 114, 97, 110, 103, 101]⟩ : ByteArray))
 (
 let x5 : Int := IntKind.i64.wrap (v5 + 1)
 again v1 x4 v3 v4 x5)) none) none) none)
 (
 k1 v1 v2 v3 v4 v5)
noncomputable def lpSConcat_3 (k0 : zSConcat1) (k1 : zSConcat0) : Nat -> LC -> Int -> LC -> Int -> Int -> OO
 | 0 => fun _ _ _ _ _ => none
 | n + 1 => lpSConcat_3s (lpSConcat_3 k0 k1 n) k0 k1
noncomputable def lpSConcat_11s (again : zSConcat2) (k0 : zSConcat2) (v1 : Nat) (v2 : LC) (v3 v4 : Int) (v5 : LI) : OO :=
 cond (decide (v4 < v3)) (
 cond (decide ((0 : Int) <= v4)) (
 cond (decide (v4 < ((v2.length : Nat) : Int))) (
 Option.bind (v2[(Int.toNat v4)]?) fun (e23 : CV) =>
 let e24 : CV := (cell1 e23).getD 0 .nili
 cond (okSli .u8 e24) (
 let l25 : LI := cvSli e24
 let l26 : LI := v5 ++ l25
 cond (Nat.ble (l26.length * 1) LIMN) (
 cond (Nat.ble l26.length LIMN) (
 let x27 : Int := IntKind.i64.wrap (v4 + 1)
 again l26.length v2 v3 x27 l26) none) none) none) none) none)
 (
 k0 v1 v2 v3 v4 v5)
noncomputable def lpSConcat_11 (k0 : zSConcat2) : Nat -> Nat -> LC -> Int -> Int -> LI -> OO
 | 0 => fun _ _ _ _ _ => none
 | n + 1 => lpSConcat_11s (lpSConcat_11 k0 n) k0
noncomputable def clpSConcat_3_0 (k : KT) : zSConcat1 := fun y1 y2 y3 y4 y5 y6 y7 y8 y9 y10 y11 y12 y13 y14 y15 y16 => k (.pan (.iface 9 (.str y1))) ⟨[(0, qG 1 y2), (3, qI y3), (5, qS y4), (9, qG 1 y5), (10, qI y6), (11, qI y7), (12, qB true), (13, .cl (.vp (.slg 1 y8) y9 0)), (14, qS y10), (15, qI y11), (16, qS y12), (17, qI y13), (18, qI y14), (19, qI y15), (20, qB true), (21, .cl (.iface 9 (.str y16)))], []⟩
noncomputable def clpSConcat_3_1 (k : KT) : zSConcat0 := fun y1 y2 y3 y4 y5 => k (.exit 0) ⟨[(0, qG 1 y1), (3, qI y2), (9, qG 1 y3), (10, qI y4), (11, qI y5), (12, qB false)], []⟩
noncomputable def LSConcat_3 : St -> (KT) -> OO := fun σ k => match σ with
 | ⟨[(q1, .cl (.slg q2 v1)), (q3, .cl (.int .i64 v2)), (q4, .cl (.slg q5 v3)), (q6, .cl (.int .i64 v4)), (q7, .cl (.int .i64 v5))], []⟩ => cond (Nat.beq q1 0 && Nat.beq q2 1 && Nat.beq q3 3 && Nat.beq q4 9 && Nat.beq q5 1 && Nat.beq q6 10 && Nat.beq q7 11) (shut (lpSConcat_3 (clpSConcat_3_0 k) (clpSConcat_3_1 k) FUEL) v1 v2 v3 v4 v5) none
 | _ => none
noncomputable def clpSConcat_11_0 (k : KT) : zSConcat2 := fun y1 y2 y3 y4 y5 => k (.exit 2) ⟨[(6, .ref 88 0 y1 true 1), (25, qG 1 y2), (26, qI y3), (27, qI y4), (28, qB false)], [(88, ⟨.ints .u8 y5, false⟩)]⟩
noncomputable def LSConcat_11 : St -> (KT) -> OO := fun σ k => match σ with
 | ⟨[(q1, .ref q2 q3 v1 true q4), (q5, .cl (.slg q6 v2)), (q7, .cl (.int .i64 v3)), (q8, .cl (.int .i64 v4))], [(q9, ⟨.ints .u8 v5, false⟩)]⟩ => cond (Nat.beq q1 6 && Nat.beq q2 88 && Nat.beq q3 0 && Nat.beq q4 1 && Nat.beq q5 25 && Nat.beq q6 1 && Nat.beq q7 26 && Nat.beq q8 27 && Nat.beq q9 88) (shut (lpSConcat_11 (clpSConcat_11_0 k) FUEL) v1 v2 v3 v4 v5) none
 | _ => none
noncomputable def ESConcat : Env := {
 orc := fun g => cond (Nat.beq g 164) SSGrow (fun _ _ => Tree.fail)
 pre := fun g => cond (Nat.beq g 164) preSGrow (fun _ _ => true)
 byref := fun g => cond (Nat.beq g 164) ([0]) ([])
 keep := fun g => cond (Nat.beq g 164) true (false)
 live := fun r => cond (Nat.beq r 3) ([0, 3, 9, 10, 11]) (cond (Nat.beq r 11) ([6, 25, 26, 27]) ([]))
 ren := fun r => cond (Nat.beq r 11) ([(97, 88)]) ([])
 glob := glVal
 nt := 36
 lp := fun r => cond (Nat.beq r 3) (some (LSConcat_3)) (cond (Nat.beq r 11) (some (LSConcat_11)) (none))
}
noncomputable def blpSConcat_3 : Code := (Cd.fst (Cd.fst (Cd.snd (Cd.fst (Cd.snd (Cd.snd (Tryd.f151.body.getD .skip)))))))
theorem lpSConcat_3_step (k : KT) (n : Nat) (v1 : LC) (v2 : Int) (v3 : LC) (v4 v5 : Int) : iterK (n + 1) (codeK Tryd.prog (ESConcat) 40 blpSConcat_3) (head (ESConcat) 3) ⟨[(0, qG 1 v1), (3, qI v2), (9, qG 1 v3), (10, qI v4), (11, qI v5)], []⟩ k = lpSConcat_3s (fun v1 v2 v3 v4 v5 => iterK n (codeK Tryd.prog (ESConcat) 40 blpSConcat_3) (head (ESConcat) 3) ⟨[(0, qG 1 v1), (3, qI v2), (9, qG 1 v3), (10, qI v4), (11, qI v5)], []⟩ k) (clpSConcat_3_0 k) (clpSConcat_3_1 k) v1 v2 v3 v4 v5 := by kernel_rfl
theorem lpSConcat_3_eq (k : KT) : ∀ (n : Nat), ∀ (v1 : LC) (v2 : Int) (v3 : LC) (v4 v5 : Int), iterK n (codeK Tryd.prog (ESConcat) 40 blpSConcat_3) (head (ESConcat) 3) ⟨[(0, qG 1 v1), (3, qI v2), (9, qG 1 v3), (10, qI v4), (11, qI v5)], []⟩ k = lpSConcat_3 (clpSConcat_3_0 k) (clpSConcat_3_1 k) n v1 v2 v3 v4 v5
 | 0 => by intros; rfl
 | n + 1 => by
  intros
  rw [lpSConcat_3_step]
  have ih := lpSConcat_3_eq k n
  simp only [lpSConcat_3, ih]
noncomputable def blpSConcat_11 : Code := (Cd.fst (Cd.fst (Cd.snd (Cd.fst (Cd.snd (Cd.snd (Cd.snd (Cd.snd (Tryd.f151.body.getD .skip)))))))))
theorem lpSConcat_11_step (k : KT) (n : Nat) (v1 : Nat) (v2 : LC) (v3 v4 : Int) (v5 : LI) : iterK (n + 1) (codeK Tryd.prog (ESConcat) 40 blpSConcat_11) (head (ESConcat) 11) ⟨[(6, .ref 88 0 v1 true 1), (25, qG 1 v2), (26, qI v3), (27, qI v4)], [(88, ⟨.ints .u8 v5, false⟩)]⟩ k = lpSConcat_11s (fun v1 v2 v3 v4 v5 => iterK n (codeK Tryd.prog (ESConcat) 40 blpSConcat_11) (head (ESConcat) 11) ⟨[(6, .ref 88 0 v1 true 1), (25, qG 1 v2), (26, qI v3), (27, qI v4)], [(88, ⟨.ints .u8 v5, false⟩)]⟩ k) (clpSConcat_11_0 k) v1 v2 v3 v4 v5 := by kernel_rfl
theorem lpSConcat_11_eq (k : KT) : ∀ (n : Nat), ∀ (v1 : Nat) (v2 : LC) (v3 v4 : Int) (v5 : LI), iterK n (codeK Tryd.prog (ESConcat) 40 blpSConcat_11) (head (ESConcat) 11) ⟨[(6, .ref 88 0 v1 true 1), (25, qG 1 v2), (26, qI v3), (27, qI v4)], [(88, ⟨.ints .u8 v5, false⟩)]⟩ k = lpSConcat_11 (clpSConcat_11_0 k) n v1 v2 v3 v4 v5
 | 0 => by intros; rfl
 | n + 1 => by
  intros
  rw [lpSConcat_11_step]
  have ih := lpSConcat_11_eq k n
  simp only [lpSConcat_11, ih]
theorem LSConcat_3_ok : ∀ (σ : St) (k : KT) (r : Out), LSConcat_3 σ k = some r -> ∃ n, iterK n (codeK Tryd.prog (ESConcat) 40 blpSConcat_3) (head (ESConcat) 3) σ k = some r := by
 intro σ k r h
 unfold LSConcat_3 at h
 split at h
 ·replace h := cond_some h
  obtain ⟨hc, h⟩ := h
  simp only [Bool.and_eq_true, beq_prop, decide_eq_true_eq, Bool.not_eq_true'] at hc
  obtain ⟨⟨⟨⟨⟨⟨rfl, rfl⟩, rfl⟩, rfl⟩, rfl⟩, rfl⟩, rfl⟩ := hc
  rw [shut_eq] at h
  exact ⟨FUEL, (lpSConcat_3_eq k FUEL _ _ _ _ _ ).trans h⟩
 ·cases h
theorem LSConcat_11_ok : ∀ (σ : St) (k : KT) (r : Out), LSConcat_11 σ k = some r -> ∃ n, iterK n (codeK Tryd.prog (ESConcat) 40 blpSConcat_11) (head (ESConcat) 11) σ k = some r := by
 intro σ k r h
 unfold LSConcat_11 at h
 split at h
 ·replace h := cond_some h
  obtain ⟨hc, h⟩ := h
  simp only [Bool.and_eq_true, beq_prop, decide_eq_true_eq, Bool.not_eq_true'] at hc
  obtain ⟨⟨⟨⟨⟨⟨⟨⟨rfl, rfl⟩, rfl⟩, rfl⟩, rfl⟩, rfl⟩, rfl⟩, rfl⟩, rfl⟩ := hc
  rw [shut_eq] at h
  exact ⟨FUEL, (lpSConcat_11_eq k FUEL _ _ _ _ _ ).trans h⟩
 ·cases h
theorem loopsSConcat : ∀ c, Tryd.f151.body = some c -> LoopsOk Tryd.prog (ESConcat) 40 c := by
 intro c hc
 cases hc
 exact ⟨trivial, ⟨trivial, ⟨⟨trivial, ⟨noneL_ok _ (by kernel_rfl), lp_some rfl (LSConcat_3_ok)⟩, jn_none rfl⟩, ⟨trivial, ⟨⟨trivial, ⟨noneL_ok _ (by kernel_rfl), lp_some rfl (LSConcat_11_ok)⟩, jn_none rfl⟩, ⟨trivial, trivial, jn_none rfl⟩, jn_none rfl⟩, jn_none rfl⟩, jn_none rfl⟩, jn_none rfl⟩, jn_none rfl⟩
noncomputable def gSConcat (l : LC) : OO :=
 shut (lpSConcat_3
 (fun y1 y2 y3 y4 y5 y6 y7 y8 y9 y10 y11 y12 y13 y14 y15 y16 =>
 some (.pan (.iface 9 (.str y1)) []))
 (fun y17 y18 y19 y20 y21 =>
 cond (growOk y18) (
 let r22 : LI := noInts
 shut (lpSConcat_11
 (fun y23 y24 y25 y26 y27 =>
 some (.ret [.cl (.sli .u8 y27)] []))
 FUEL) 0 y17 ((y17.length : Nat) : Int) 0 r22) none)
 FUEL) l 0 l ((l.length : Nat) : Int) 0
theorem gSConcat_eq (l : LC) : bodyK Tryd.prog (ESConcat) 40 false Tryd.f151 [.cl (.slg 1 l)] [] = gSConcat l := by kernel_rfl

abbrev zDWrite0 := Nat -> Int -> LC -> Int -> Int -> Int -> LI -> LC -> LC -> OO
abbrev zDWrite1 := Nat -> Int -> Int -> LI -> Bool -> LC -> Int -> Int -> Int -> LC -> Nat -> Int -> LI -> LC -> LI -> Bool -> Int -> LI -> LC -> LI -> Bool -> LI -> Bool -> Bool -> Int -> LI -> LC -> Int -> LI -> LC -> LC -> OO
noncomputable def lpDWrite_6s (rk : Nat) (again : zDWrite0) (k0 : zDWrite1) (k1 : zDWrite0) (v1 : Nat) (v2 : Int) (v3 : LC) (v4 v5 v6 : Int) (v7 : LI) (v8 v9 : LC) : OO :=
 cond (decide (v5 < v4)) (
 cond (decide ((0 : Int) <= v5)) (
 cond (decide (v5 < ((v3.length : Nat) : Int))) (
 Option.bind (v3[(Int.toNat v5)]?) fun (e5 : CV) =>
 let e6 : CV := (cell1 e5).headD .nili
 let e7 : CV := (cell1 e5).tail.headD .nili
 let e8 : CV := (cell1 e5).tail.tail.headD .nili
 cond (okInt .i64 e6 && (okSli .u8 e7 && (okSlg 3 e8 && true))) (
 let i9 : Int := cvInt e6
 let l10 : LI := cvSli e7
 let l11 : LC := cvSlg e8
 cond (isWr rk [.int .i64 i9, .sli .u8 l10, .slg 3 l11]) (
 let r12 : LI := (ndWrite [.int .i64 i9, .sli .u8 l10, .slg 3 l11]).1
 let r13 : Bool := (ndWrite [.int .i64 i9, .sli .u8 l10, .slg 3 l11]).2
 cond (!r13) (
 k0 v1 v2 v5 r12 r13 v3 v4 v5 v5 v3 (Int.toNat v5) i9 l10 l11 r12 r13 i9 l10 l11 r12 r13 r12 r13 r13 v6 v7 v8 i9 l10 l11 v9)
 (
 let x14 : Int := IntKind.i64.wrap (v2 + ((r12.length : Nat) : Int))
 cond (decide ((0 : Int) <= v5)) (
 cond (decide (v5 < ((v1 : Nat) : Int))) (
 let l15 : LC := v9.set (0 + (Int.toNat v5)) (.sli .u8 r12)
 let x16 : Int := IntKind.i64.wrap (v5 + 1)
 again v1 x14 v3 v4 x16 v6 v7 v8 l15) none) none)) none) none) none) none)
 (
 k1 v1 v2 v3 v4 v5 v6 v7 v8 v9)
noncomputable def lpDWrite_6 (rk : Nat) (k0 : zDWrite1) (k1 : zDWrite0) : Nat -> Nat -> Int -> LC -> Int -> Int -> Int -> LI -> LC -> LC -> OO
 | 0 => fun _ _ _ _ _ _ _ _ _ => none
 | n + 1 => lpDWrite_6s rk (lpDWrite_6 rk k0 k1 n) k0 k1
noncomputable def clpDWrite_6_0 (k : KT) : zDWrite1 := fun y1 y2 y3 y4 y5 y6 y7 y8 y9 y10 y11 y12 y13 y14 y15 y16 y17 y18 y19 y20 y21 y22 y23 y24 y25 y26 y27 y28 y29 y30 y31 => k .ret ⟨[(1, .ptr 65 0 0), (2, .ref 66 0 0 true 1), (3, qB false), (4, .ref 90 0 y1 true 1), (5, qI y2), (6, qI y3), (7, .ptr 71 0 0), (8, qS y4), (9, qB y5), (28, qG 3 y6), (29, qI y7), (30, qI y8), (31, qB true), (32, qI y9), (33, .cl (.vp (.slg 3 y10) y11 0)), (34, .cl (.agg [.int .i64 y12, .sli .u8 y13, .slg 3 y14])), (35, .tup [qS y15, qB y16]), (36, .cl (.agg [.int .i64 y17, .sli .u8 y18, .slg 3 y19])), (37, .tup [qS y20, qB y21]), (38, qS y22), (39, qB y23), (40, qB y24), (41, qB true)], [(65, ⟨.var [qI y25, qS y26, qG 3 y27], false⟩), (66, ⟨.ints .u8 [], false⟩), (71, ⟨.var [qI y28, qS y29, qG 3 y30], false⟩), (90, ⟨.gen 1 y31, false⟩)]⟩
noncomputable def clpDWrite_6_1 (k : KT) : zDWrite0 := fun y1 y2 y3 y4 y5 y6 y7 y8 y9 => k (.exit 0) ⟨[(1, .ptr 65 0 0), (4, .ref 90 0 y1 true 1), (5, qI y2), (28, qG 3 y3), (29, qI y4), (30, qI y5), (31, qB false)], [(65, ⟨.var [qI y6, qS y7, qG 3 y8], false⟩), (90, ⟨.gen 1 y9, false⟩)]⟩
noncomputable def LDWrite_6 (rk : Nat) : St -> (KT) -> OO := fun σ k => match σ with
 | ⟨[(q1, .ptr q2 q3 q4), (q5, .ref q6 q7 v1 true q8), (q9, .cl (.int .i64 v2)), (q10, .cl (.slg q11 v3)), (q12, .cl (.int .i64 v4)), (q13, .cl (.int .i64 v5))], [(q14, ⟨.var [.cl (.int .i64 v6), .cl (.sli .u8 v7), .cl (.slg q15 v8)], false⟩), (q16, ⟨.gen q17 v9, false⟩)]⟩ => cond (Nat.beq q1 1 && Nat.beq q2 65 && Nat.beq q3 0 && Nat.beq q4 0 && Nat.beq q5 4 && Nat.beq q6 90 && Nat.beq q7 0 && Nat.beq q8 1 && Nat.beq q9 5 && Nat.beq q10 28 && Nat.beq q11 3 && Nat.beq q12 29 && Nat.beq q13 30 && Nat.beq q14 65 && Nat.beq q15 3 && Nat.beq q16 90 && Nat.beq q17 1) (shut (lpDWrite_6 rk (clpDWrite_6_0 k) (clpDWrite_6_1 k) FUEL) v1 v2 v3 v4 v5 v6 v7 v8 v9) none
 | _ => none
noncomputable def EDWrite (rk : Nat) : Env := {
 orc := fun g => cond (Nat.beq g 100) SDBoxed (cond (Nat.beq g 114) SDWrite (cond (Nat.beq g 149) SDPut (cond (Nat.beq g 150) SOSorted (cond (Nat.beq g 151) SSConcat (fun _ _ => Tree.fail)))))
 pre := fun g => cond (Nat.beq g 100) preDBoxed (cond (Nat.beq g 114) (preRDWrite (rk)) (cond (Nat.beq g 149) preDPut (cond (Nat.beq g 150) preOSorted (cond (Nat.beq g 151) preSConcat (fun _ _ => true)))))
 byref := fun g => cond (Nat.beq g 149) ([0]) ([])
 keep := fun g => cond (Nat.beq g 149) true (false)
 live := fun r => cond (Nat.beq r 6) ([1, 4, 5, 28, 29, 30]) ([])
 glob := glVal
 nt := 66
 lp := fun r => cond (Nat.beq r 6) (some (LDWrite_6 rk)) (none)
}
noncomputable def blpDWrite_6 : Code := (Cd.fst (Cd.fst (Cd.snd (Cd.fst (Cd.snd (Cd.snd (Cd.snd (Cd.snd (Tryd.f114.body.getD .skip)))))))))
theorem lpDWrite_6_step (rk : Nat) (k : KT) (n : Nat) (v1 : Nat) (v2 : Int) (v3 : LC) (v4 v5 v6 : Int) (v7 : LI) (v8 v9 : LC) : iterK (n + 1) (codeK Tryd.prog (EDWrite rk) 40 blpDWrite_6) (head (EDWrite rk) 6) ⟨[(1, .ptr 65 0 0), (4, .ref 90 0 v1 true 1), (5, qI v2), (28, qG 3 v3), (29, qI v4), (30, qI v5)], [(65, ⟨.var [qI v6, qS v7, qG 3 v8], false⟩), (90, ⟨.gen 1 v9, false⟩)]⟩ k = lpDWrite_6s rk (fun v1 v2 v3 v4 v5 v6 v7 v8 v9 => iterK n (codeK Tryd.prog (EDWrite rk) 40 blpDWrite_6) (head (EDWrite rk) 6) ⟨[(1, .ptr 65 0 0), (4, .ref 90 0 v1 true 1), (5, qI v2), (28, qG 3 v3), (29, qI v4), (30, qI v5)], [(65, ⟨.var [qI v6, qS v7, qG 3 v8], false⟩), (90, ⟨.gen 1 v9, false⟩)]⟩ k) (clpDWrite_6_0 k) (clpDWrite_6_1 k) v1 v2 v3 v4 v5 v6 v7 v8 v9 := by kernel_rfl
theorem lpDWrite_6_eq (rk : Nat) (k : KT) : ∀ (n : Nat), ∀ (v1 : Nat) (v2 : Int) (v3 : LC) (v4 v5 v6 : Int) (v7 : LI) (v8 v9 : LC), iterK n (codeK Tryd.prog (EDWrite rk) 40 blpDWrite_6) (head (EDWrite rk) 6) ⟨[(1, .ptr 65 0 0), (4, .ref 90 0 v1 true 1), (5, qI v2), (28, qG 3 v3), (29, qI v4), (30, qI v5)], [(65, ⟨.var [qI v6, qS v7, qG 3 v8], false⟩), (90, ⟨.gen 1 v9, false⟩)]⟩ k = lpDWrite_6 rk (clpDWrite_6_0 k) (clpDWrite_6_1 k) n v1 v2 v3 v4 v5 v6 v7 v8 v9
 | 0 => by intros; rfl
 | n + 1 => by
  intros
  rw [lpDWrite_6_step]
  have ih := lpDWrite_6_eq rk k n
  simp only [lpDWrite_6, ih]
theorem LDWrite_6_ok (rk : Nat) : ∀ (σ : St) (k : KT) (r : Out), LDWrite_6 rk σ k = some r -> ∃ n, iterK n (codeK Tryd.prog (EDWrite rk) 40 blpDWrite_6) (head (EDWrite rk) 6) σ k = some r := by
 intro σ k r h
 unfold LDWrite_6 at h
 split at h
 ·replace h := cond_some h
  obtain ⟨hc, h⟩ := h
  simp only [Bool.and_eq_true, beq_prop, decide_eq_true_eq, Bool.not_eq_true'] at hc
  obtain ⟨⟨⟨⟨⟨⟨⟨⟨⟨⟨⟨⟨⟨⟨⟨⟨rfl, rfl⟩, rfl⟩, rfl⟩, rfl⟩, rfl⟩, rfl⟩, rfl⟩, rfl⟩, rfl⟩, rfl⟩, rfl⟩, rfl⟩, rfl⟩, rfl⟩, rfl⟩, rfl⟩ := hc
  rw [shut_eq] at h
  exact ⟨FUEL, (lpDWrite_6_eq rk k FUEL _ _ _ _ _ _ _ _ _ ).trans h⟩
 ·cases h
theorem loopsDWrite (rk : Nat) : ∀ c, Tryd.f114.body = some c -> LoopsOk Tryd.prog (EDWrite rk) 40 c := by
 intro c hc
 cases hc
 exact ⟨trivial, ⟨noneL_ok _ (by kernel_rfl), ⟨trivial, ⟨trivial, ⟨⟨trivial, ⟨noneL_ok _ (by kernel_rfl), lp_some rfl (LDWrite_6_ok rk)⟩, jn_none rfl⟩, noneL_ok _ (by kernel_rfl), jn_none rfl⟩, jn_none rfl⟩, jn_none rfl⟩, jn_none rfl⟩, jn_none rfl⟩
noncomputable def gDWrite (rk : Nat) (ta : Int) (ba : LI) (ka : LC) : OO :=
 let r1 : Bool := derBoxed ta
 cond (!r1) (
 cond (headOk ta ((ba.length : Nat) : Int)) (
 let r3 : LI := derHead ta ((ba.length : Nat) : Int)
 let l4 : LI := r3 ++ ba
 cond (Nat.ble (l4.length * 1) LIMN) (
 cond (Nat.ble l4.length LIMN) (
 some (.ret [.cl (.sli .u8 l4), .cl (.bool true)] [])) none) none) none)
 (
 cond (decide ((0 : Int) <= ((ka.length : Nat) : Int))) (
 cond (decide (((ka.length : Nat) : Int) <= ((ka.length : Nat) : Int))) (
 cond (decide (((ka.length : Nat) : Int) * 24 <= LIM)) (
 cond (decide (((ka.length : Nat) : Int) <= LIM)) (
 shut (lpDWrite_6 rk
 (fun y5 y6 y7 y8 y9 y10 y11 y12 y13 y14 y15 y16 y17 y18 y19 y20 y21 y22 y23 y24 y25 y26 y27 y28 y29 y30 y31 y32 y33 y34 y35 =>
 some (.ret [.cl (.sli .u8 []), .cl (.bool false)] []))
 (fun y36 y37 y38 y39 y40 y41 y42 y43 y44 =>
 cond (decide (y41 = 49)) (
 cond (rowsOk y44) (
 let r45 : Bool := rowsSorted y44
 cond (!r45) (
 some (.ret [.cl (.sli .u8 []), .cl (.bool false)] []))
 (
 cond (headOk y41 y37) (
 let r47 : LI := derHead y41 y37
 cond (joinOk y44) (
 let r48 : LI := rowsJoin y44
 let l49 : LI := r47 ++ r48
 cond (Nat.ble (l49.length * 1) LIMN) (
 cond (Nat.ble l49.length LIMN) (
 some (.ret [.cl (.sli .u8 l49), .cl (.bool true)] [])) none) none) none) none)) none)
 (
 cond (headOk y41 y37) (
 let r51 : LI := derHead y41 y37
 cond (joinOk y44) (
 let r52 : LI := rowsJoin y44
 let l53 : LI := r51 ++ r52
 cond (Nat.ble (l53.length * 1) LIMN) (
 cond (Nat.ble l53.length LIMN) (
 some (.ret [.cl (.sli .u8 l53), .cl (.bool true)] [])) none) none) none) none))
 FUEL) (Int.toNat ((ka.length : Nat) : Int)) 0 ka ((ka.length : Nat) : Int) 0 ta ba ka (List.replicate (Int.toNat ((ka.length : Nat) : Int)) (.sli .u8 []))) none) none) none) none)
theorem gDWrite_eq (rk : Nat) (ta : Int) (ba : LI) (ka : LC) : bodyK Tryd.prog (EDWrite rk) 40 false Tryd.f114 [.cl (.agg [.int .i64 ta, .sli .u8 ba, .slg 3 ka])] [] = gDWrite rk ta ba ka := by kernel_rfl

abbrev zRWrite0 := Int -> Nat -> Int -> Int -> LI -> Bool -> Int -> LC -> Int -> LI -> Bool -> LC -> Int -> LC -> Nat -> Int -> LI -> LC -> Int -> Int -> LI -> Bool -> LI -> Bool -> Int -> LI -> Int -> Int -> Bool -> Bool -> Int -> LI -> LC -> LC -> OO
abbrev zRWrite1 := Int -> Nat -> Int -> Int -> LI -> Bool -> Int -> LC -> Int -> LI -> Bool -> LC -> Int -> LC -> Nat -> Int -> LI -> LC -> Int -> Int -> LI -> Bool -> LI -> Bool -> Int -> LI -> Int -> Int -> Bool -> Bool -> Int -> Bool -> Int -> LI -> LC -> LC -> OO
abbrev zRWrite2 := Int -> Nat -> Int -> Int -> Int -> LC -> Int -> Int -> LI -> LC -> LC -> OO
noncomputable def lpRWrite_12s (rk : Nat) (again : Int -> Nat -> Int -> Int -> Int -> LI -> LC -> LC -> OO) (k0 : zRWrite0) (k1 : zRWrite1) (k2 : zRWrite2) (v1 : Int) (v2 : Nat) (v3 v4 v5 : Int) (v6 : LI) (v7 v8 : LC) : OO :=
 cond (decide (v4 < ((v7.length : Nat) : Int))) (
 cond (decide ((0 : Int) <= v4)) (
 cond (decide (v4 < ((v7.length : Nat) : Int))) (
 Option.bind (v7[(Int.toNat v4)]?) fun (e7 : CV) =>
 let e8 : CV := (cell1 e7).headD .nili
 let e9 : CV := (cell1 e7).tail.headD .nili
 let e10 : CV := (cell1 e7).tail.tail.headD .nili
 cond (okInt .i64 e8 && (okSli .u8 e9 && (okSlg 3 e10 && true))) (
 let i11 : Int := cvInt e8
 let l12 : LI := cvSli e9
 let l13 : LC := cvSlg e10
 let x14 : Int := IntKind.i64.wrap (v1 - 1)
 cond (isSr rk [.int .i64 i11, .sli .u8 l12, .slg 3 l13] && deepOk x14) (
 let r15 : LI := (ndWriteR [.int .i64 i11, .sli .u8 l12, .slg 3 l13] x14).1
 let r16 : Bool := (ndWriteR [.int .i64 i11, .sli .u8 l12, .slg 3 l13] x14).2
 let x17 : Int := IntKind.i64.wrap (v3 + ((r15.length : Nat) : Int))
 cond (!r16) (
 k0 v1 v2 x17 v4 r15 r16 v4 v7 ((v7.length : Nat) : Int) r15 r16 v7 v4 v7 (Int.toNat v4) i11 l12 l13 v1 x14 r15 r16 r15 r16 v3 r15 ((r15.length : Nat) : Int) x17 r16 (!r16) v5 v6 v7 v8)
 (
 cond (decide ((1048576 : Int) < x17)) (
 k1 v1 v2 x17 v4 r15 r16 v4 v7 ((v7.length : Nat) : Int) r15 r16 v7 v4 v7 (Int.toNat v4) i11 l12 l13 v1 x14 r15 r16 r15 r16 v3 r15 ((r15.length : Nat) : Int) x17 r16 (!r16) x17 (decide ((1048576 : Int) < x17)) v5 v6 v7 v8)
 (
 let l18 : LC := v8 ++ [.sli .u8 r15]
 cond (Nat.ble (l18.length * 24) LIMN) (
 cond (Nat.ble l18.length LIMN) (
 let x19 : Int := IntKind.i64.wrap (v4 + 1)
 again v1 l18.length x17 x19 v5 v6 v7 l18) none) none))) none) none) none) none)
 (
 k2 v1 v2 v3 v4 v4 v7 ((v7.length : Nat) : Int) v5 v6 v7 v8)
noncomputable def lpRWrite_12 (rk : Nat) (k0 : zRWrite0) (k1 : zRWrite1) (k2 : zRWrite2) : Nat -> Int -> Nat -> Int -> Int -> Int -> LI -> LC -> LC -> OO
 | 0 => fun _ _ _ _ _ _ _ _ => none
 | n + 1 => lpRWrite_12s rk (lpRWrite_12 rk k0 k1 k2 n) k0 k1 k2
noncomputable def clpRWrite_12_0 (k : KT) : zRWrite0 := fun y1 y2 y3 y4 y5 y6 y7 y8 y9 y10 y11 y12 y13 y14 y15 y16 y17 y18 y19 y20 y21 y22 y23 y24 y25 y26 y27 y28 y29 y30 y31 y32 y33 y34 => k .ret ⟨[(1, qI y1), (2, .ptr 66 0 0), (4, .ref 68 0 0 true 1), (5, qB false), (6, .ref 70 0 y2 true 1), (7, qI y3), (8, qI y4), (9, qS y5), (10, qB y6), (54, qI y7), (55, .ptr 66 0 2), (56, qG 3 y8), (57, qI y9), (58, qB true), (61, .tup [qS y10, qB y11]), (62, .ptr 66 0 2), (63, qG 3 y12), (64, qI y13), (65, .cl (.vp (.slg 3 y14) y15 0)), (66, .cl (.agg [.int .i64 y16, .sli .u8 y17, .slg 3 y18])), (67, qI y19), (68, qI y20), (69, .tup [qS y21, qB y22]), (70, qS y23), (71, qB y24), (72, qI y25), (73, qS y26), (74, qI y27), (75, qI y28), (76, qB y29), (77, qB y30), (78, qB true), (79, .tup []), (80, .tup []), (81, qB true)], [(66, ⟨.var [qI y31, qS y32, qG 3 y33], false⟩), (68, ⟨.ints .u8 [], false⟩), (70, ⟨.gen 1 y34, false⟩)]⟩
noncomputable def clpRWrite_12_1 (k : KT) : zRWrite1 := fun y1 y2 y3 y4 y5 y6 y7 y8 y9 y10 y11 y12 y13 y14 y15 y16 y17 y18 y19 y20 y21 y22 y23 y24 y25 y26 y27 y28 y29 y30 y31 y32 y33 y34 y35 y36 => k .ret ⟨[(1, qI y1), (2, .ptr 66 0 0), (4, .ref 68 0 0 true 1), (5, qB false), (6, .ref 70 0 y2 true 1), (7, qI y3), (8, qI y4), (9, qS y5), (10, qB y6), (54, qI y7), (55, .ptr 66 0 2), (56, qG 3 y8), (57, qI y9), (58, qB true), (61, .tup [qS y10, qB y11]), (62, .ptr 66 0 2), (63, qG 3 y12), (64, qI y13), (65, .cl (.vp (.slg 3 y14) y15 0)), (66, .cl (.agg [.int .i64 y16, .sli .u8 y17, .slg 3 y18])), (67, qI y19), (68, qI y20), (69, .tup [qS y21, qB y22]), (70, qS y23), (71, qB y24), (72, qI y25), (73, qS y26), (74, qI y27), (75, qI y28), (76, qB y29), (77, qB y30), (78, qB false), (79, qI y31), (80, qB y32), (81, qB true)], [(66, ⟨.var [qI y33, qS y34, qG 3 y35], false⟩), (68, ⟨.ints .u8 [], false⟩), (70, ⟨.gen 1 y36, false⟩)]⟩
noncomputable def clpRWrite_12_2 (k : KT) : zRWrite2 := fun y1 y2 y3 y4 y5 y6 y7 y8 y9 y10 y11 => k (.exit 0) ⟨[(1, qI y1), (2, .ptr 66 0 0), (6, .ref 70 0 y2 true 1), (7, qI y3), (8, qI y4), (54, qI y5), (55, .ptr 66 0 2), (56, qG 3 y6), (57, qI y7), (58, qB false)], [(66, ⟨.var [qI y8, qS y9, qG 3 y10], false⟩), (70, ⟨.gen 1 y11, false⟩)]⟩
noncomputable def LRWrite_12 (rk : Nat) : St -> (KT) -> OO := fun σ k => match σ with
 | ⟨[(q1, .cl (.int .i64 v1)), (q2, .ptr q3 q4 q5), (q6, .ref q7 q8 v2 true q9), (q10, .cl (.int .i64 v3)), (q11, .cl (.int .i64 v4))], [(q12, ⟨.var [.cl (.int .i64 v5), .cl (.sli .u8 v6), .cl (.slg q13 v7)], false⟩), (q14, ⟨.gen q15 v8, false⟩)]⟩ => cond (Nat.beq q1 1 && Nat.beq q2 2 && Nat.beq q3 66 && Nat.beq q4 0 && Nat.beq q5 0 && Nat.beq q6 6 && Nat.beq q7 70 && Nat.beq q8 0 && Nat.beq q9 1 && Nat.beq q10 7 && Nat.beq q11 8 && Nat.beq q12 66 && Nat.beq q13 3 && Nat.beq q14 70 && Nat.beq q15 1) (shut (lpRWrite_12 rk (clpRWrite_12_0 k) (clpRWrite_12_1 k) (clpRWrite_12_2 k) FUEL) v1 v2 v3 v4 v5 v6 v7 v8) none
 | _ => none
noncomputable def ERWrite (rk : Nat) : Env := {
 orc := fun g => cond (Nat.beq g 101) SRBoxed (cond (Nat.beq g 111) SRFits (cond (Nat.beq g 112) SRWrite (cond (Nat.beq g 142) SRTagged (cond (Nat.beq g 143) SRHead (cond (Nat.beq g 144) SR4Sorted (cond (Nat.beq g 145) SR1Join (fun _ _ => Tree.fail)))))))
 pre := fun g => cond (Nat.beq g 101) preRBoxed (cond (Nat.beq g 111) preRFits (cond (Nat.beq g 112) (preRRWrite (rk)) (cond (Nat.beq g 142) preRTagged (cond (Nat.beq g 143) preRHead (cond (Nat.beq g 144) preR4Sorted (cond (Nat.beq g 145) preR1Join (fun _ _ => true)))))))
 keep := fun g => cond (Nat.beq g 143) true (false)
 live := fun r => cond (Nat.beq r 12) ([1, 2, 6, 7, 8]) ([])
 ren := fun r => cond (Nat.beq r 12) ([(149, 70)]) ([])
 glob := glVal
 nt := 101
 lp := fun r => cond (Nat.beq r 12) (some (LRWrite_12 rk)) (none)
}
noncomputable def blpRWrite_12 : Code := (Cd.fst (Cd.fst (Cd.snd (Cd.fst (Cd.snd (Cd.snd (Cd.snd (Cd.snd (Cd.snd (Cd.snd (Tryd.f112.body.getD .skip)))))))))))
theorem lpRWrite_12_step (rk : Nat) (k : KT) (n : Nat) (v1 : Int) (v2 : Nat) (v3 v4 v5 : Int) (v6 : LI) (v7 v8 : LC) : iterK (n + 1) (codeK Tryd.prog (ERWrite rk) 40 blpRWrite_12) (head (ERWrite rk) 12) ⟨[(1, qI v1), (2, .ptr 66 0 0), (6, .ref 70 0 v2 true 1), (7, qI v3), (8, qI v4)], [(66, ⟨.var [qI v5, qS v6, qG 3 v7], false⟩), (70, ⟨.gen 1 v8, false⟩)]⟩ k = lpRWrite_12s rk (fun v1 v2 v3 v4 v5 v6 v7 v8 => iterK n (codeK Tryd.prog (ERWrite rk) 40 blpRWrite_12) (head (ERWrite rk) 12) ⟨[(1, qI v1), (2, .ptr 66 0 0), (6, .ref 70 0 v2 true 1), (7, qI v3), (8, qI v4)], [(66, ⟨.var [qI v5, qS v6, qG 3 v7], false⟩), (70, ⟨.gen 1 v8, false⟩)]⟩ k) (clpRWrite_12_0 k) (clpRWrite_12_1 k) (clpRWrite_12_2 k) v1 v2 v3 v4 v5 v6 v7 v8 := by kernel_rfl
theorem lpRWrite_12_eq (rk : Nat) (k : KT) : ∀ (n : Nat), ∀ (v1 : Int) (v2 : Nat) (v3 v4 v5 : Int) (v6 : LI) (v7 v8 : LC), iterK n (codeK Tryd.prog (ERWrite rk) 40 blpRWrite_12) (head (ERWrite rk) 12) ⟨[(1, qI v1), (2, .ptr 66 0 0), (6, .ref 70 0 v2 true 1), (7, qI v3), (8, qI v4)], [(66, ⟨.var [qI v5, qS v6, qG 3 v7], false⟩), (70, ⟨.gen 1 v8, false⟩)]⟩ k = lpRWrite_12 rk (clpRWrite_12_0 k) (clpRWrite_12_1 k) (clpRWrite_12_2 k) n v1 v2 v3 v4 v5 v6 v7 v8
 | 0 => by intros; rfl
 | n + 1 => by
  intros
  rw [lpRWrite_12_step]
  have ih := lpRWrite_12_eq rk k n
  simp only [lpRWrite_12, ih]
theorem LRWrite_12_ok (rk : Nat) : ∀ (σ : St) (k : KT) (r : Out), LRWrite_12 rk σ k = some r -> ∃ n, iterK n (codeK Tryd.prog (ERWrite rk) 40 blpRWrite_12) (head (ERWrite rk) 12) σ k = some r := by
 intro σ k r h
 unfold LRWrite_12 at h
 split at h
 ·replace h := cond_some h
  obtain ⟨hc, h⟩ := h
  simp only [Bool.and_eq_true, beq_prop, decide_eq_true_eq, Bool.not_eq_true'] at hc
  obtain ⟨⟨⟨⟨⟨⟨⟨⟨⟨⟨⟨⟨⟨⟨rfl, rfl⟩, rfl⟩, rfl⟩, rfl⟩, rfl⟩, rfl⟩, rfl⟩, rfl⟩, rfl⟩, rfl⟩, rfl⟩, rfl⟩, rfl⟩, rfl⟩ := hc
  rw [shut_eq] at h
  exact ⟨FUEL, (lpRWrite_12_eq rk k FUEL _ _ _ _ _ _ _ _ ).trans h⟩
 ·cases h
theorem loopsRWrite (rk : Nat) : ∀ c, Tryd.f112.body = some c -> LoopsOk Tryd.prog (ERWrite rk) 40 c := by
 intro c hc
 cases hc
 exact ⟨trivial, ⟨noneL_ok _ (by kernel_rfl), ⟨noneL_ok _ (by kernel_rfl), ⟨noneL_ok _ (by kernel_rfl), ⟨trivial, ⟨trivial, ⟨⟨trivial, ⟨noneL_ok _ (by kernel_rfl), lp_some rfl (LRWrite_12_ok rk)⟩, jn_none rfl⟩, noneL_ok _ (by kernel_rfl), jn_none rfl⟩, jn_none rfl⟩, jn_none rfl⟩, jn_none rfl⟩, jn_none rfl⟩, jn_none rfl⟩, jn_none rfl⟩
noncomputable def gRWrite (rk : Nat) (ta : Int) (ba : LI) (ka : LC) (deep : Int) : OO :=
 cond (decide (deep = 0)) (
 some (.ret [.cl (.sli .u8 []), .cl (.bool false)] []))
 (
 let r1 : Bool := derKnown ta
 cond (!r1) (
 some (.ret [.cl (.sli .u8 []), .cl (.bool false)] []))
 (
 let r2 : Bool := derBoxed ta
 cond (!r2) (
 cond (decide ((0 : Int) < ((ka.length : Nat) : Int))) (
 some (.ret [.cl (.sli .u8 []), .cl (.bool false)] []))
 (
 cond (decide ((1048576 : Int) < ((ba.length : Nat) : Int))) (
 some (.ret [.cl (.sli .u8 []), .cl (.bool false)] []))
 (
 cond (bytesOk ba) (
 let r3 : Bool := derFits ta ba
 cond (!r3) (
 some (.ret [.cl (.sli .u8 []), .cl (.bool false)] []))
 (
 cond (headOk ta ((ba.length : Nat) : Int)) (
 let r5 : LI := derHead ta ((ba.length : Nat) : Int)
 let l6 : LI := r5 ++ ba
 cond (Nat.ble (l6.length * 1) LIMN) (
 cond (Nat.ble l6.length LIMN) (
 some (.ret [.cl (.sli .u8 l6), .cl (.bool true)] [])) none) none) none)) none)))
 (
 cond (decide ((0 : Int) < ((ba.length : Nat) : Int))) (
 some (.ret [.cl (.sli .u8 []), .cl (.bool false)] []))
 (
 shut (lpRWrite_12 rk
 (fun y7 y8 y9 y10 y11 y12 y13 y14 y15 y16 y17 y18 y19 y20 y21 y22 y23 y24 y25 y26 y27 y28 y29 y30 y31 y32 y33 y34 y35 y36 y37 y38 y39 y40 =>
 some (.ret [.cl (.sli .u8 []), .cl (.bool false)] []))
 (fun y41 y42 y43 y44 y45 y46 y47 y48 y49 y50 y51 y52 y53 y54 y55 y56 y57 y58 y59 y60 y61 y62 y63 y64 y65 y66 y67 y68 y69 y70 y71 y72 y73 y74 y75 y76 =>
 some (.ret [.cl (.sli .u8 []), .cl (.bool false)] []))
 (fun y77 y78 y79 y80 y81 y82 y83 y84 y85 y86 y87 =>
 cond (decide (y84 = 49)) (
 cond (rowsOk y87) (
 let r88 : Bool := rowsSorted y87
 cond (!r88) (
 some (.ret [.cl (.sli .u8 []), .cl (.bool false)] []))
 (
 cond (headOk y84 y79) (
 let r90 : LI := derHead y84 y79
 cond (joinOk y87) (
 let r91 : LI := rowsJoin y87
 let l92 : LI := r90 ++ r91
 cond (Nat.ble (l92.length * 1) LIMN) (
 cond (Nat.ble l92.length LIMN) (
 some (.ret [.cl (.sli .u8 l92), .cl (.bool true)] [])) none) none) none) none)) none)
 (
 cond (headOk y84 y79) (
 let r94 : LI := derHead y84 y79
 cond (joinOk y87) (
 let r95 : LI := rowsJoin y87
 let l96 : LI := r94 ++ r95
 cond (Nat.ble (l96.length * 1) LIMN) (
 cond (Nat.ble l96.length LIMN) (
 some (.ret [.cl (.sli .u8 l96), .cl (.bool true)] [])) none) none) none) none))
 FUEL) deep 0 0 0 ta ba ka []))))
theorem gRWrite_eq (rk : Nat) (ta : Int) (ba : LI) (ka : LC) (deep : Int) : bodyK Tryd.prog (ERWrite rk) 40 false Tryd.f112 [.cl (.agg [.int .i64 ta, .sli .u8 ba, .slg 3 ka]), .cl (.int .i64 deep)] [] = gRWrite rk ta ba ka deep := by kernel_rfl

noncomputable def EDBytes : Env := {
 orc := fun g => cond (Nat.beq g 113) SDSize (cond (Nat.beq g 114) SDWrite (fun _ _ => Tree.fail))
 pre := fun g => cond (Nat.beq g 113) preDSize (cond (Nat.beq g 114) preDWrite (fun _ _ => true))
 glob := glVal
 nt := 23
}
theorem loopsDBytes : ∀ c, Tryd.f68.body = some c -> LoopsOk Tryd.prog (EDBytes) 40 c := by
 intro c hc
 cases hc
 exact noneL_ok _ (by kernel_rfl)
noncomputable def gDBytes (ta : Int) (ba : LI) (ka : LC) : OO :=
 cond (isS [.int .i64 ta, .sli .u8 ba, .slg 3 ka] && deepOk 32) (
 let r1 : Int := ndSize [.int .i64 ta, .sli .u8 ba, .slg 3 ka] 32
 cond (decide (r1 < 0)) (
 some (.ret [.cl (.sli .u8 []), .cl (.int .i64 1)] []))
 (
 cond (decide ((1048576 : Int) < r1)) (
 some (.ret [.cl (.sli .u8 []), .cl (.int .i64 1)] []))
 (
 cond (isW [.int .i64 ta, .sli .u8 ba, .slg 3 ka]) (
 let r2 : LI := (ndWrite [.int .i64 ta, .sli .u8 ba, .slg 3 ka]).1
 let r3 : Bool := (ndWrite [.int .i64 ta, .sli .u8 ba, .slg 3 ka]).2
 cond (!r3) (
 some (.ret [.cl (.sli .u8 []), .cl (.int .i64 1)] []))
 (
 some (.ret [.cl (.sli .u8 r2), .cl (.int .i64 0)] []))) none))) none
theorem gDBytes_eq (ta : Int) (ba : LI) (ka : LC) : bodyK Tryd.prog (EDBytes) 40 false Tryd.f68 [.cl (.agg [.int .i64 ta, .sli .u8 ba, .slg 3 ka])] [] = gDBytes ta ba ka := by kernel_rfl

noncomputable def EDFit_ : Env := {
 orc := fun g => cond (Nat.beq g 68) SDBytes (fun _ _ => Tree.fail)
 pre := fun g => cond (Nat.beq g 68) preDBytes (fun _ _ => true)
 glob := glVal
 nt := 12
}
theorem loopsDFit_ : ∀ c, Tryd.f119.body = some c -> LoopsOk Tryd.prog (EDFit_) 40 c := by
 intro c hc
 cases hc
 exact noneL_ok _ (by kernel_rfl)
noncomputable def gDFit_ (ta : Int) (ba : LI) (ka : LC) : OO :=
 cond (isS [.int .i64 ta, .sli .u8 ba, .slg 3 ka]) (
 let r2 : Int := (ndBytes [.int .i64 ta, .sli .u8 ba, .slg 3 ka]).2
 some (.ret [.cl (.bool (decide (r2 = 0)))] [])) none
theorem gDFit__eq (ta : Int) (ba : LI) (ka : LC) : bodyK Tryd.prog (EDFit_) 40 false Tryd.f119 [.cl (.agg [.int .i64 ta, .sli .u8 ba, .slg 3 ka])] [] = gDFit_ ta ba ka := by kernel_rfl

noncomputable def ERBytes : Env := {
 orc := fun g => cond (Nat.beq g 112) SRWrite (fun _ _ => Tree.fail)
 pre := fun g => cond (Nat.beq g 112) preRWrite (fun _ _ => true)
 glob := glVal
 nt := 19
}
theorem loopsRBytes : ∀ c, Tryd.f67.body = some c -> LoopsOk Tryd.prog (ERBytes) 40 c := by
 intro c hc
 cases hc
 exact noneL_ok _ (by kernel_rfl)
noncomputable def gRBytes (ta : Int) (ba : LI) (ka : LC) : OO :=
 cond (isS [.int .i64 ta, .sli .u8 ba, .slg 3 ka] && deepOk 32) (
 let r1 : LI := (ndWriteR [.int .i64 ta, .sli .u8 ba, .slg 3 ka] 32).1
 let r2 : Bool := (ndWriteR [.int .i64 ta, .sli .u8 ba, .slg 3 ka] 32).2
 cond (!r2) (
 some (.ret [.cl (.sli .u8 []), .cl (.int .i64 1)] []))
 (
 cond (decide ((1048576 : Int) < ((r1.length : Nat) : Int))) (
 some (.ret [.cl (.sli .u8 []), .cl (.int .i64 1)] []))
 (
 some (.ret [.cl (.sli .u8 r1), .cl (.int .i64 0)] [])))) none
theorem gRBytes_eq (ta : Int) (ba : LI) (ka : LC) : bodyK Tryd.prog (ERBytes) 40 false Tryd.f67 [.cl (.agg [.int .i64 ta, .sli .u8 ba, .slg 3 ka])] [] = gRBytes ta ba ka := by kernel_rfl

noncomputable def ERFit_ : Env := {
 orc := fun g => cond (Nat.beq g 67) SRBytes (fun _ _ => Tree.fail)
 pre := fun g => cond (Nat.beq g 67) preRBytes (fun _ _ => true)
 glob := glVal
 nt := 12
}
theorem loopsRFit_ : ∀ c, Tryd.f11.body = some c -> LoopsOk Tryd.prog (ERFit_) 40 c := by
 intro c hc
 cases hc
 exact noneL_ok _ (by kernel_rfl)
noncomputable def gRFit_ (ta : Int) (ba : LI) (ka : LC) : OO :=
 cond (isS [.int .i64 ta, .sli .u8 ba, .slg 3 ka]) (
 let r2 : Int := (ndBytes [.int .i64 ta, .sli .u8 ba, .slg 3 ka]).2
 some (.ret [.cl (.bool (decide (r2 = 0)))] [])) none
theorem gRFit__eq (ta : Int) (ba : LI) (ka : LC) : bodyK Tryd.prog (ERFit_) 40 false Tryd.f11 [.cl (.agg [.int .i64 ta, .sli .u8 ba, .slg 3 ka])] [] = gRFit_ ta ba ka := by kernel_rfl

noncomputable def lpR2Same_4s (again : LI -> LI -> Int -> OO) (k0 : OO) (k1 : OO) (v1 v2 : LI) (v3 : Int) : OO :=
 cond (decide (v3 < ((v1.length : Nat) : Int))) (
 getK v1 v3 fun e1 =>
 getK v2 v3 fun e2 =>
 cond (!decide (e1 = e2)) (
 k0)
 (
 let x3 : Int := IntKind.i64.wrap (v3 + 1)
 again v1 v2 x3))
 (
 k1)
noncomputable def lpR2Same_4 (k0 : OO) (k1 : OO) : Nat -> LI -> LI -> Int -> OO := iterF (fun a => lpR2Same_4s a k0 k1) (fun _ _ _ => none)
noncomputable def LR2Same_4 : St -> (KT) -> OO := fun σ k => match σ with
 | ⟨[(q1, .cl (.sli .u32 v1)), (q2, .cl (.sli .u32 v2)), (q3, .cl (.int .i64 v3))], []⟩ => cond (Nat.beq q1 0 && Nat.beq q2 1 && Nat.beq q3 5) (shut (lpR2Same_4 (k .ret ⟨[(4, .cl (.bool false))], []⟩) (k (.exit 0) ⟨[], []⟩) FUEL) v1 v2 v3) none
 | _ => none
noncomputable def ER2Same : Env := {
 orc := fun _ => fun _ _ => Tree.fail
 pre := fun _ => fun _ _ => true
 live := fun r => cond (Nat.beq r 4) ([0, 1, 5]) ([])
 glob := glVal
 nt := 26
 lp := fun r => cond (Nat.beq r 4) (some (LR2Same_4)) (none)
 xl := fun r => cond (Nat.beq r 0) (some [4]) (cond (Nat.beq r 1) (some []) (none))
}
noncomputable def blpR2Same_4 : Code := (Cd.fst (Cd.fst (Cd.snd (Cd.fst (Cd.snd (Cd.snd (Tryd.f29.body.getD .skip)))))))
theorem LR2Same_4_ok : LpOk Tryd.prog (ER2Same) 40 blpR2Same_4 4 LR2Same_4 := by
 intro σ k r h
 unfold LR2Same_4 at h
 split at h
 ·replace h := cond_some h
  obtain ⟨hc, h⟩ := h
  simp only [Bool.and_eq_true, beq_prop, decide_eq_true_eq, Bool.not_eq_true'] at hc
  obtain ⟨⟨rfl, rfl⟩, rfl⟩ := hc
  rw [shut_eq] at h
  exact ⟨FUEL, iter_ok (F := fun n v1 v2 v3 => iterK n (codeK Tryd.prog (ER2Same) 40 blpR2Same_4) (head (ER2Same) 4) ⟨[(0, .cl (.sli .u32 v1)), (1, .cl (.sli .u32 v2)), (5, .cl (.int .i64 v3))], []⟩ k) (Q := fun f => f _ _ _ = some r) rfl (fun n => by kernel_rfl) h⟩
 ·cases h
theorem loopsR2Same : ∀ c, Tryd.f29.body = some c -> LoopsOk Tryd.prog (ER2Same) 40 c := by
 intro c hc
 cases hc
 exact ⟨trivial, ⟨noneL_ok _ (by kernel_rfl), ⟨⟨trivial, ⟨noneL_ok _ (by kernel_rfl), lp_some rfl (LR2Same_4_ok)⟩, jn_none rfl⟩, ⟨trivial, trivial, jn_none rfl⟩, jn_none rfl⟩, jn_none rfl⟩, jn_none rfl⟩
noncomputable def gR2Same (a : LI) (b : LI) : OO :=
 cond (!decide (((a.length : Nat) : Int) = ((b.length : Nat) : Int))) (
 some (.ret [.cl (.bool false)] []))
 (
 shut (lpR2Same_4
 (
 some (.ret [.cl (.bool false)] []))
 (
 some (.ret [.cl (.bool true)] []))
 FUEL) a b 0)
theorem gR2Same_eq (a : LI) (b : LI) : bodyK Tryd.prog (ER2Same) 40 false Tryd.f29 [.cl (.sli .u32 a), .cl (.sli .u32 b)] [] = gR2Same a b := by kernel_rfl

noncomputable def lpSEq32_4s (again : LI -> LI -> Int -> Int -> OO) (k0 : OO) (k1 : OO) (v1 v2 : LI) (v3 v4 : Int) : OO :=
 cond (decide (v4 < v3)) (
 getK v1 v4 fun e1 =>
 getK v2 v4 fun e2 =>
 cond (!decide (e1 = e2)) (
 k0)
 (
 let x3 : Int := IntKind.i64.wrap (v4 + 1)
 again v1 v2 v3 x3))
 (
 k1)
noncomputable def lpSEq32_4 (k0 : OO) (k1 : OO) : Nat -> LI -> LI -> Int -> Int -> OO := iterF (fun a => lpSEq32_4s a k0 k1) (fun _ _ _ _ => none)
noncomputable def LSEq32_4 : St -> (KT) -> OO := fun σ k => match σ with
 | ⟨[(q1, .cl (.sli .u32 v1)), (q2, .cl (.sli .u32 v2)), (q3, .cl (.int .i64 v3)), (q4, .cl (.int .i64 v4))], []⟩ => cond (Nat.beq q1 0 && Nat.beq q2 1 && Nat.beq q3 12 && Nat.beq q4 13) (shut (lpSEq32_4 (k .ret ⟨[(4, .cl (.bool false))], []⟩) (k (.exit 0) ⟨[], []⟩) FUEL) v1 v2 v3 v4) none
 | _ => none
noncomputable def ESEq32 : Env := {
 orc := fun _ => fun _ _ => Tree.fail
 pre := fun _ => fun _ _ => true
 live := fun r => cond (Nat.beq r 4) ([0, 1, 12, 13]) ([])
 glob := glVal
 nt := 26
 lp := fun r => cond (Nat.beq r 4) (some (LSEq32_4)) (none)
 xl := fun r => cond (Nat.beq r 0) (some [4]) (cond (Nat.beq r 1) (some []) (none))
}
noncomputable def blpSEq32_4 : Code := (Cd.fst (Cd.fst (Cd.snd (Cd.fst (Cd.snd (Cd.snd (Tryd.f133.body.getD .skip)))))))
theorem LSEq32_4_ok : LpOk Tryd.prog (ESEq32) 40 blpSEq32_4 4 LSEq32_4 := by
 intro σ k r h
 unfold LSEq32_4 at h
 split at h
 ·replace h := cond_some h
  obtain ⟨hc, h⟩ := h
  simp only [Bool.and_eq_true, beq_prop, decide_eq_true_eq, Bool.not_eq_true'] at hc
  obtain ⟨⟨⟨rfl, rfl⟩, rfl⟩, rfl⟩ := hc
  rw [shut_eq] at h
  exact ⟨FUEL, iter_ok (F := fun n v1 v2 v3 v4 => iterK n (codeK Tryd.prog (ESEq32) 40 blpSEq32_4) (head (ESEq32) 4) ⟨[(0, .cl (.sli .u32 v1)), (1, .cl (.sli .u32 v2)), (12, .cl (.int .i64 v3)), (13, .cl (.int .i64 v4))], []⟩ k) (Q := fun f => f _ _ _ _ = some r) rfl (fun n => by kernel_rfl) h⟩
 ·cases h
theorem loopsSEq32 : ∀ c, Tryd.f133.body = some c -> LoopsOk Tryd.prog (ESEq32) 40 c := by
 intro c hc
 cases hc
 exact ⟨trivial, ⟨noneL_ok _ (by kernel_rfl), ⟨⟨trivial, ⟨noneL_ok _ (by kernel_rfl), lp_some rfl (LSEq32_4_ok)⟩, jn_none rfl⟩, ⟨trivial, trivial, jn_none rfl⟩, jn_none rfl⟩, jn_none rfl⟩, jn_none rfl⟩
noncomputable def gSEq32 (a : LI) (b : LI) : OO :=
 cond (!decide (((a.length : Nat) : Int) = ((b.length : Nat) : Int))) (
 some (.ret [.cl (.bool false)] []))
 (
 shut (lpSEq32_4
 (
 some (.ret [.cl (.bool false)] []))
 (
 some (.ret [.cl (.bool true)] []))
 FUEL) a b ((a.length : Nat) : Int) 0)
theorem gSEq32_eq (a : LI) (b : LI) : bodyK Tryd.prog (ESEq32) 40 false Tryd.f133 [.cl (.sli .u32 a), .cl (.sli .u32 b)] [] = gSEq32 a b := by kernel_rfl

noncomputable def EOSame : Env := {
 orc := fun g => cond (Nat.beq g 133) SSEq32 (fun _ _ => Tree.fail)
 pre := fun g => cond (Nat.beq g 133) preSEq32 (fun _ _ => true)
 glob := glVal
 nt := 8
 xl := fun r => cond (Nat.beq r 0) (some [4]) (none)
}
theorem loopsOSame : ∀ c, Tryd.f98.body = some c -> LoopsOk Tryd.prog (EOSame) 40 c := by
 intro c hc
 cases hc
 exact noneL_ok _ (by kernel_rfl)
noncomputable def gOSame (a : LI) (b : LI) : OO :=
 cond (lenOk a) (
 let r1 : Bool := listSame a b
 some (.ret [.cl (.bool r1)] [])) none
theorem gOSame_eq (a : LI) (b : LI) : bodyK Tryd.prog (EOSame) 40 false Tryd.f98 [.cl (.sli .u32 a), .cl (.sli .u32 b)] [] = gOSame a b := by kernel_rfl
end Go.Proofs.YtfkpjbbkdkcdcaaDoorA
