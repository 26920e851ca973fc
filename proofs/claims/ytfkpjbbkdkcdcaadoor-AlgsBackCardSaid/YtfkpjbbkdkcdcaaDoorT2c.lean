/-
 What the reading of apostille/oid.put comes to, printed by a program. Conditions: none.
-/
import Derived.Test.YtfkpjbbkdkcdcaaDoorT1
set_option linter.unusedVariables false
set_option linter.unusedSimpArgs false
set_option maxRecDepth 100000
namespace Go.Proofs.YtfkpjbbkdkcdcaaDoorA
noncomputable def jnOPut_2 (k0 : Int -> Int -> Int -> Int -> Int -> OO) (k1 : Int -> Int -> Int -> Int -> OO) (k2 : Int -> Int -> Int -> OO) (k3 : Int -> Int -> OO) (k4 : Int -> OO) (v1 : Int) : OO :=
 let x1 : Int := Int.fdiv v1 (2 ^ 28)
 cond (!decide (x1 = 0)) (
 let x2 : Int := Int.fdiv v1 (2 ^ 28)
 let x3 : Int := IntKind.u8.wrap x2
 let x4 : Int := IntKind.u8.wrap ((BitVec.ofInt 8 x3 ||| BitVec.ofInt 8 128).toNat)
 let x5 : Int := Int.fdiv v1 (2 ^ 21)
 cond (!decide (x5 = 0)) (
 let x6 : Int := Int.fdiv v1 (2 ^ 21)
 let x7 : Int := IntKind.u8.wrap x6
 let x8 : Int := IntKind.u8.wrap ((BitVec.ofInt 8 x7 ||| BitVec.ofInt 8 128).toNat)
 let x9 : Int := Int.fdiv v1 (2 ^ 14)
 cond (!decide (x9 = 0)) (
 let x10 : Int := Int.fdiv v1 (2 ^ 14)
 let x11 : Int := IntKind.u8.wrap x10
 let x12 : Int := IntKind.u8.wrap ((BitVec.ofInt 8 x11 ||| BitVec.ofInt 8 128).toNat)
 let x13 : Int := Int.fdiv v1 (2 ^ 7)
 cond (!decide (x13 = 0)) (
 let x14 : Int := Int.fdiv v1 (2 ^ 7)
 let x15 : Int := IntKind.u8.wrap x14
 let x16 : Int := IntKind.u8.wrap ((BitVec.ofInt 8 x15 ||| BitVec.ofInt 8 128).toNat)
 k0 v1 x4 x8 x12 x16)
 (
 k1 v1 x4 x8 x12))
 (
 let x17 : Int := Int.fdiv v1 (2 ^ 7)
 cond (!decide (x17 = 0)) (
 let x18 : Int := Int.fdiv v1 (2 ^ 7)
 let x19 : Int := IntKind.u8.wrap x18
 let x20 : Int := IntKind.u8.wrap ((BitVec.ofInt 8 x19 ||| BitVec.ofInt 8 128).toNat)
 k1 v1 x4 x8 x20)
 (
 k2 v1 x4 x8)))
 (
 let x21 : Int := Int.fdiv v1 (2 ^ 14)
 cond (!decide (x21 = 0)) (
 let x22 : Int := Int.fdiv v1 (2 ^ 14)
 let x23 : Int := IntKind.u8.wrap x22
 let x24 : Int := IntKind.u8.wrap ((BitVec.ofInt 8 x23 ||| BitVec.ofInt 8 128).toNat)
 let x25 : Int := Int.fdiv v1 (2 ^ 7)
 cond (!decide (x25 = 0)) (
 let x26 : Int := Int.fdiv v1 (2 ^ 7)
 let x27 : Int := IntKind.u8.wrap x26
 let x28 : Int := IntKind.u8.wrap ((BitVec.ofInt 8 x27 ||| BitVec.ofInt 8 128).toNat)
 k1 v1 x4 x24 x28)
 (
 k2 v1 x4 x24))
 (
 let x29 : Int := Int.fdiv v1 (2 ^ 7)
 cond (!decide (x29 = 0)) (
 let x30 : Int := Int.fdiv v1 (2 ^ 7)
 let x31 : Int := IntKind.u8.wrap x30
 let x32 : Int := IntKind.u8.wrap ((BitVec.ofInt 8 x31 ||| BitVec.ofInt 8 128).toNat)
 k2 v1 x4 x32)
 (
 k3 v1 x4))))
 (
 let x33 : Int := Int.fdiv v1 (2 ^ 21)
 cond (!decide (x33 = 0)) (
 let x34 : Int := Int.fdiv v1 (2 ^ 21)
 let x35 : Int := IntKind.u8.wrap x34
 let x36 : Int := IntKind.u8.wrap ((BitVec.ofInt 8 x35 ||| BitVec.ofInt 8 128).toNat)
 let x37 : Int := Int.fdiv v1 (2 ^ 14)
 cond (!decide (x37 = 0)) (
 let x38 : Int := Int.fdiv v1 (2 ^ 14)
 let x39 : Int := IntKind.u8.wrap x38
 let x40 : Int := IntKind.u8.wrap ((BitVec.ofInt 8 x39 ||| BitVec.ofInt 8 128).toNat)
 let x41 : Int := Int.fdiv v1 (2 ^ 7)
 cond (!decide (x41 = 0)) (
 let x42 : Int := Int.fdiv v1 (2 ^ 7)
 let x43 : Int := IntKind.u8.wrap x42
 let x44 : Int := IntKind.u8.wrap ((BitVec.ofInt 8 x43 ||| BitVec.ofInt 8 128).toNat)
 k1 v1 x36 x40 x44)
 (
 k2 v1 x36 x40))
 (
 let x45 : Int := Int.fdiv v1 (2 ^ 7)
 cond (!decide (x45 = 0)) (
 let x46 : Int := Int.fdiv v1 (2 ^ 7)
 let x47 : Int := IntKind.u8.wrap x46
 let x48 : Int := IntKind.u8.wrap ((BitVec.ofInt 8 x47 ||| BitVec.ofInt 8 128).toNat)
 k2 v1 x36 x48)
 (
 k3 v1 x36)))
 (
 let x49 : Int := Int.fdiv v1 (2 ^ 14)
 cond (!decide (x49 = 0)) (
 let x50 : Int := Int.fdiv v1 (2 ^ 14)
 let x51 : Int := IntKind.u8.wrap x50
 let x52 : Int := IntKind.u8.wrap ((BitVec.ofInt 8 x51 ||| BitVec.ofInt 8 128).toNat)
 let x53 : Int := Int.fdiv v1 (2 ^ 7)
 cond (!decide (x53 = 0)) (
 let x54 : Int := Int.fdiv v1 (2 ^ 7)
 let x55 : Int := IntKind.u8.wrap x54
 let x56 : Int := IntKind.u8.wrap ((BitVec.ofInt 8 x55 ||| BitVec.ofInt 8 128).toNat)
 k2 v1 x52 x56)
 (
 k3 v1 x52))
 (
 let x57 : Int := Int.fdiv v1 (2 ^ 7)
 cond (!decide (x57 = 0)) (
 let x58 : Int := Int.fdiv v1 (2 ^ 7)
 let x59 : Int := IntKind.u8.wrap x58
 let x60 : Int := IntKind.u8.wrap ((BitVec.ofInt 8 x59 ||| BitVec.ofInt 8 128).toNat)
 k3 v1 x60)
 (
 k4 v1))))
noncomputable def jnOPut_2_1 (k0 : Nat -> Int -> LI -> OO) (k1 : Nat -> Int -> LI -> OO) (v1 : Nat) (v2 : Int) (v3 : LI) : OO :=
 let x1 : Int := Int.fdiv v2 (2 ^ 28)
 cond (!decide (x1 = 0)) (
 let x2 : Int := Int.fdiv v2 (2 ^ 28)
 let x3 : Int := IntKind.u8.wrap x2
 let x4 : Int := IntKind.u8.wrap ((BitVec.ofInt 8 x3 ||| BitVec.ofInt 8 128).toNat)
 let l5 : LI := v3 ++ [x4]
 rmK l5.length 1 <|
 let x6 : Int := Int.fdiv v2 (2 ^ 21)
 cond (!decide (x6 = 0)) (
 let x7 : Int := Int.fdiv v2 (2 ^ 21)
 let x8 : Int := IntKind.u8.wrap x7
 let x9 : Int := IntKind.u8.wrap ((BitVec.ofInt 8 x8 ||| BitVec.ofInt 8 128).toNat)
 let l10 : LI := l5 ++ [x9]
 rmK l10.length 1 <|
 let x11 : Int := Int.fdiv v2 (2 ^ 14)
 cond (!decide (x11 = 0)) (
 let x12 : Int := Int.fdiv v2 (2 ^ 14)
 let x13 : Int := IntKind.u8.wrap x12
 let x14 : Int := IntKind.u8.wrap ((BitVec.ofInt 8 x13 ||| BitVec.ofInt 8 128).toNat)
 let l15 : LI := l10 ++ [x14]
 rmK l15.length 1 <|
 let x16 : Int := Int.fdiv v2 (2 ^ 7)
 cond (!decide (x16 = 0)) (
 let x17 : Int := Int.fdiv v2 (2 ^ 7)
 let x18 : Int := IntKind.u8.wrap x17
 let x19 : Int := IntKind.u8.wrap ((BitVec.ofInt 8 x18 ||| BitVec.ofInt 8 128).toNat)
 let l20 : LI := l15 ++ [x19]
 rmK l20.length 1 <|
 k0 l20.length v2 l20)
 (
 k0 l15.length v2 l15))
 (
 let x21 : Int := Int.fdiv v2 (2 ^ 7)
 cond (!decide (x21 = 0)) (
 let x22 : Int := Int.fdiv v2 (2 ^ 7)
 let x23 : Int := IntKind.u8.wrap x22
 let x24 : Int := IntKind.u8.wrap ((BitVec.ofInt 8 x23 ||| BitVec.ofInt 8 128).toNat)
 let l25 : LI := l10 ++ [x24]
 rmK l25.length 1 <|
 k0 l25.length v2 l25)
 (
 k0 l10.length v2 l10)))
 (
 let x26 : Int := Int.fdiv v2 (2 ^ 14)
 cond (!decide (x26 = 0)) (
 let x27 : Int := Int.fdiv v2 (2 ^ 14)
 let x28 : Int := IntKind.u8.wrap x27
 let x29 : Int := IntKind.u8.wrap ((BitVec.ofInt 8 x28 ||| BitVec.ofInt 8 128).toNat)
 let l30 : LI := l5 ++ [x29]
 rmK l30.length 1 <|
 let x31 : Int := Int.fdiv v2 (2 ^ 7)
 cond (!decide (x31 = 0)) (
 let x32 : Int := Int.fdiv v2 (2 ^ 7)
 let x33 : Int := IntKind.u8.wrap x32
 let x34 : Int := IntKind.u8.wrap ((BitVec.ofInt 8 x33 ||| BitVec.ofInt 8 128).toNat)
 let l35 : LI := l30 ++ [x34]
 rmK l35.length 1 <|
 k0 l35.length v2 l35)
 (
 k0 l30.length v2 l30))
 (
 let x36 : Int := Int.fdiv v2 (2 ^ 7)
 cond (!decide (x36 = 0)) (
 let x37 : Int := Int.fdiv v2 (2 ^ 7)
 let x38 : Int := IntKind.u8.wrap x37
 let x39 : Int := IntKind.u8.wrap ((BitVec.ofInt 8 x38 ||| BitVec.ofInt 8 128).toNat)
 let l40 : LI := l5 ++ [x39]
 rmK l40.length 1 <|
 k0 l40.length v2 l40)
 (
 k0 l5.length v2 l5))))
 (
 let x41 : Int := Int.fdiv v2 (2 ^ 21)
 cond (!decide (x41 = 0)) (
 let x42 : Int := Int.fdiv v2 (2 ^ 21)
 let x43 : Int := IntKind.u8.wrap x42
 let x44 : Int := IntKind.u8.wrap ((BitVec.ofInt 8 x43 ||| BitVec.ofInt 8 128).toNat)
 let l45 : LI := v3 ++ [x44]
 rmK l45.length 1 <|
 let x46 : Int := Int.fdiv v2 (2 ^ 14)
 cond (!decide (x46 = 0)) (
 let x47 : Int := Int.fdiv v2 (2 ^ 14)
 let x48 : Int := IntKind.u8.wrap x47
 let x49 : Int := IntKind.u8.wrap ((BitVec.ofInt 8 x48 ||| BitVec.ofInt 8 128).toNat)
 let l50 : LI := l45 ++ [x49]
 rmK l50.length 1 <|
 let x51 : Int := Int.fdiv v2 (2 ^ 7)
 cond (!decide (x51 = 0)) (
 let x52 : Int := Int.fdiv v2 (2 ^ 7)
 let x53 : Int := IntKind.u8.wrap x52
 let x54 : Int := IntKind.u8.wrap ((BitVec.ofInt 8 x53 ||| BitVec.ofInt 8 128).toNat)
 let l55 : LI := l50 ++ [x54]
 rmK l55.length 1 <|
 k0 l55.length v2 l55)
 (
 k0 l50.length v2 l50))
 (
 let x56 : Int := Int.fdiv v2 (2 ^ 7)
 cond (!decide (x56 = 0)) (
 let x57 : Int := Int.fdiv v2 (2 ^ 7)
 let x58 : Int := IntKind.u8.wrap x57
 let x59 : Int := IntKind.u8.wrap ((BitVec.ofInt 8 x58 ||| BitVec.ofInt 8 128).toNat)
 let l60 : LI := l45 ++ [x59]
 rmK l60.length 1 <|
 k0 l60.length v2 l60)
 (
 k0 l45.length v2 l45)))
 (
 let x61 : Int := Int.fdiv v2 (2 ^ 14)
 cond (!decide (x61 = 0)) (
 let x62 : Int := Int.fdiv v2 (2 ^ 14)
 let x63 : Int := IntKind.u8.wrap x62
 let x64 : Int := IntKind.u8.wrap ((BitVec.ofInt 8 x63 ||| BitVec.ofInt 8 128).toNat)
 let l65 : LI := v3 ++ [x64]
 rmK l65.length 1 <|
 let x66 : Int := Int.fdiv v2 (2 ^ 7)
 cond (!decide (x66 = 0)) (
 let x67 : Int := Int.fdiv v2 (2 ^ 7)
 let x68 : Int := IntKind.u8.wrap x67
 let x69 : Int := IntKind.u8.wrap ((BitVec.ofInt 8 x68 ||| BitVec.ofInt 8 128).toNat)
 let l70 : LI := l65 ++ [x69]
 rmK l70.length 1 <|
 k0 l70.length v2 l70)
 (
 k0 l65.length v2 l65))
 (
 let x71 : Int := Int.fdiv v2 (2 ^ 7)
 cond (!decide (x71 = 0)) (
 let x72 : Int := Int.fdiv v2 (2 ^ 7)
 let x73 : Int := IntKind.u8.wrap x72
 let x74 : Int := IntKind.u8.wrap ((BitVec.ofInt 8 x73 ||| BitVec.ofInt 8 128).toNat)
 let l75 : LI := v3 ++ [x74]
 rmK l75.length 1 <|
 k0 l75.length v2 l75)
 (
 k1 v1 v2 v3))))
noncomputable def JOPut_2 : St -> (KT) -> OO := fun σ k => match σ with
 | ⟨[(q1, .nils), (q2, .cl (.int .u32 v1)), (q3, .cl (.int .i64 q4))], []⟩ => cond (Nat.beq q1 0 && Nat.beq q2 1 && Nat.beq q3 5 && decide (q4 = 28)) (shut (jnOPut_2 (fun y1 y2 y3 y4 y5 => k .normal ⟨[(0, .ref 85 0 4 true 1), (1, .cl (.int .u32 y1))], [(85, ⟨.ints .u8 [y2, y3, y4, y5], false⟩)]⟩) (fun y1 y2 y3 y4 => k .normal ⟨[(0, .ref 85 0 3 true 1), (1, .cl (.int .u32 y1))], [(85, ⟨.ints .u8 [y2, y3, y4], false⟩)]⟩) (fun y1 y2 y3 => k .normal ⟨[(0, .ref 85 0 2 true 1), (1, .cl (.int .u32 y1))], [(85, ⟨.ints .u8 [y2, y3], false⟩)]⟩) (fun y1 y2 => k .normal ⟨[(0, .ref 85 0 1 true 1), (1, .cl (.int .u32 y1))], [(85, ⟨.ints .u8 [y2], false⟩)]⟩) (fun y1 => k .normal ⟨[(0, .nils), (1, .cl (.int .u32 y1))], []⟩)) v1) none
 | ⟨[(q1, .ref q2 q3 v1 true q4), (q5, .cl (.int .u32 v2)), (q6, .cl (.int .i64 q7))], [(q8, ⟨.ints .u8 v3, false⟩)]⟩ => cond (Nat.beq q1 0 && Nat.beq q2 0 && Nat.beq q3 0 && Nat.beq q4 1 && Nat.beq q5 1 && Nat.beq q6 5 && decide (q7 = 28) && Nat.beq q8 0) (shut (jnOPut_2_1 (fun y1 y2 y3 => k .normal ⟨[(0, .ref 85 0 y1 true 1), (1, .cl (.int .u32 y2))], [(85, ⟨.ints .u8 y3, false⟩)]⟩) (fun y1 y2 y3 => k .normal ⟨[(0, .ref 0 0 y1 true 1), (1, .cl (.int .u32 y2))], [(0, ⟨.ints .u8 y3, false⟩)]⟩)) v1 v2 v3) none
 | _ => none
noncomputable def EOPut : Env := {
 orc := fun _ => fun _ _ => Tree.fail
 pre := fun _ => fun _ _ => true
 live := fun r => cond (Nat.beq r 2) ([0, 1, 5]) ([])
 glob := glVal
 nt := 28
 xl := fun r => cond (Nat.beq r 0) (some [4]) (cond (Nat.beq r 1) (some [0, 1]) (cond (Nat.beq r 1002) (some [0, 1]) (none)))
 jn := fun r => cond (Nat.beq r 2) (some (JOPut_2)) (none)
}
noncomputable def bjnOPut_2 : Code := (Cd.snd (Cd.fst (Cd.snd (Tryd.f134.body.getD .skip))))
theorem JOPut_2_ok : JnOk Tryd.prog (EOPut) 40 bjnOPut_2 2 JOPut_2 := by
 intro σ k r h
 unfold JOPut_2 at h
 split at h
 ·replace h := cond_some h
  obtain ⟨hc, h⟩ := h
  simp only [Bool.and_eq_true, beq_prop, decide_eq_true_eq, Bool.not_eq_true'] at hc
  obtain ⟨⟨⟨rfl, rfl⟩, rfl⟩, rfl⟩ := hc
  rw [shut_eq] at h
  exact Eq.trans (by kernel_rfl) h
 ·replace h := cond_some h
  obtain ⟨hc, h⟩ := h
  simp only [Bool.and_eq_true, beq_prop, decide_eq_true_eq, Bool.not_eq_true'] at hc
  obtain ⟨⟨⟨⟨⟨⟨⟨rfl, rfl⟩, rfl⟩, rfl⟩, rfl⟩, rfl⟩, rfl⟩, rfl⟩ := hc
  rw [shut_eq] at h
  exact Eq.trans (by kernel_rfl) h
 ·cases h
theorem loopsOPut : ∀ c, Tryd.f134.body = some c -> LoopsOk Tryd.prog (EOPut) 40 c := by
 intro c hc
 cases hc
 exact ⟨trivial, ⟨⟨trivial, noneL_ok _ (by kernel_rfl), jn_some rfl (JOPut_2_ok)⟩, ⟨trivial, trivial, jn_none rfl⟩, jn_none rfl⟩, jn_none rfl⟩
noncomputable def gOPut_0 (n : Int) : OO :=
 shut (jnOPut_2
 (fun y1 y2 y3 y4 y5 =>
 let x6 : Int := IntKind.u8.wrap y1
 let x7 : Int := IntKind.u8.wrap ((BitVec.ofInt 8 x6 &&& ~~~ BitVec.ofInt 8 128).toNat)
 some (.ret [.ref 0 0 5 true 1] [some ⟨.ints .u8 [y2, y3, y4, y5, x7], false⟩]))
 (fun y8 y9 y10 y11 =>
 let x12 : Int := IntKind.u8.wrap y8
 let x13 : Int := IntKind.u8.wrap ((BitVec.ofInt 8 x12 &&& ~~~ BitVec.ofInt 8 128).toNat)
 some (.ret [.ref 0 0 4 true 1] [some ⟨.ints .u8 [y9, y10, y11, x13], false⟩]))
 (fun y14 y15 y16 =>
 let x17 : Int := IntKind.u8.wrap y14
 let x18 : Int := IntKind.u8.wrap ((BitVec.ofInt 8 x17 &&& ~~~ BitVec.ofInt 8 128).toNat)
 some (.ret [.ref 0 0 3 true 1] [some ⟨.ints .u8 [y15, y16, x18], false⟩]))
 (fun y19 y20 =>
 let x21 : Int := IntKind.u8.wrap y19
 let x22 : Int := IntKind.u8.wrap ((BitVec.ofInt 8 x21 &&& ~~~ BitVec.ofInt 8 128).toNat)
 some (.ret [.ref 0 0 2 true 1] [some ⟨.ints .u8 [y20, x22], false⟩]))
 (fun y23 =>
 let x24 : Int := IntKind.u8.wrap y23
 let x25 : Int := IntKind.u8.wrap ((BitVec.ofInt 8 x24 &&& ~~~ BitVec.ofInt 8 128).toNat)
 some (.ret [.ref 0 0 1 true 1] [some ⟨.ints .u8 [x25], false⟩]))) n
theorem gOPut_0_eq (n : Int) : bodyK Tryd.prog (EOPut) 40 true Tryd.f134 [.nils, .cl (.int .u32 n)] [] = gOPut_0 n := by kernel_rfl
noncomputable def gOPut_1 (m : Nat) (n : Int) (l : LI) : OO :=
 shut (jnOPut_2_1
 (fun y1 y2 y3 =>
 let x4 : Int := IntKind.u8.wrap y2
 let x5 : Int := IntKind.u8.wrap ((BitVec.ofInt 8 x4 &&& ~~~ BitVec.ofInt 8 128).toNat)
 let l6 : LI := y3 ++ [x5]
 rmK l6.length 1 <|
 some (.ret [.ref 1 0 l6.length true 1] [none, some ⟨.ints .u8 l6, false⟩]))
 (fun y7 y8 y9 =>
 let x10 : Int := IntKind.u8.wrap y8
 let x11 : Int := IntKind.u8.wrap ((BitVec.ofInt 8 x10 &&& ~~~ BitVec.ofInt 8 128).toNat)
 let l12 : LI := y9 ++ [x11]
 rmK l12.length 1 <|
 some (.ret [.ref 1 0 l12.length true 1] [none, some ⟨.ints .u8 l12, false⟩]))) m n l
theorem gOPut_1_eq (m : Nat) (n : Int) (l : LI) : bodyK Tryd.prog (EOPut) 40 true Tryd.f134 [.ref 0 0 m true 1, .cl (.int .u32 n)] [⟨.ints .u8 l, false⟩] = gOPut_1 m n l := by kernel_rfl

noncomputable def lpOBytes_5s (again : Nat -> LI -> Int -> Int -> LI -> OO) (k0 : Nat -> LI -> OO) (v1 : Nat) (v2 : LI) (v3 v4 : Int) (v5 : LI) : OO :=
 cond (decide (v4 < v3)) (
 getK v2 v4 fun e9 =>
 cond (u32Ok e9 && lenOk v5) (
 let r10 : Nat := (v5 ++ oidGroups e9).length
 let r11 : LI := v5 ++ oidGroups e9
 let x12 : Int := IntKind.i64.wrap (v4 + 1)
 again r10 v2 v3 x12 r11) none)
 (
 k0 v1 v5)
noncomputable def lpOBytes_5 (k0 : Nat -> LI -> OO) : Nat -> Nat -> LI -> Int -> Int -> LI -> OO := iterF (fun a => lpOBytes_5s a k0) (fun _ _ _ _ _ => none)
noncomputable def LOBytes_5 : St -> (KT) -> OO := fun σ k => match σ with
 | ⟨[(q1, .ref q2 q3 v1 true q4), (q5, .cl (.sli .u32 v2)), (q6, .cl (.int .i64 v3)), (q7, .cl (.int .i64 v4))], [(q8, ⟨.ints .u8 v5, false⟩)]⟩ => cond (Nat.beq q1 3 && Nat.beq q2 81 && Nat.beq q3 0 && Nat.beq q4 1 && Nat.beq q5 19 && Nat.beq q6 20 && Nat.beq q7 21 && Nat.beq q8 81) (shut (lpOBytes_5 (fun y1 y2 => k (.exit 0) ⟨[(3, .ref 81 0 y1 true 1)], [(81, ⟨.ints .u8 y2, false⟩)]⟩) FUEL) v1 v2 v3 v4 v5) none
 | _ => none
noncomputable def EOBytes : Env := {
 orc := fun g => cond (Nat.beq g 122) SOFit (cond (Nat.beq g 134) SOPut (fun _ _ => Tree.fail))
 pre := fun g => cond (Nat.beq g 122) preOFit (cond (Nat.beq g 134) preOPut (fun _ _ => true))
 byref := fun g => cond (Nat.beq g 134) ([0]) ([])
 keep := fun g => cond (Nat.beq g 134) true (false)
 live := fun r => cond (Nat.beq r 5) ([3, 19, 20, 21]) ([])
 ren := fun r => cond (Nat.beq r 5) ([(91, 81)]) ([])
 glob := glVal
 nt := 30
 lp := fun r => cond (Nat.beq r 5) (some (LOBytes_5)) (none)
 xl := fun r => cond (Nat.beq r 0) (some [2]) (cond (Nat.beq r 1) (some [3]) (none))
}
noncomputable def blpOBytes_5 : Code := (Cd.fst (Cd.fst (Cd.snd (Cd.fst (Cd.snd (Cd.snd (Cd.snd (Tryd.f106.body.getD .skip))))))))
theorem LOBytes_5_ok : LpOk Tryd.prog (EOBytes) 40 blpOBytes_5 5 LOBytes_5 := by
 intro σ k r h
 unfold LOBytes_5 at h
 split at h
 ·replace h := cond_some h
  obtain ⟨hc, h⟩ := h
  simp only [Bool.and_eq_true, beq_prop, decide_eq_true_eq, Bool.not_eq_true'] at hc
  obtain ⟨⟨⟨⟨⟨⟨⟨rfl, rfl⟩, rfl⟩, rfl⟩, rfl⟩, rfl⟩, rfl⟩, rfl⟩ := hc
  rw [shut_eq] at h
  exact ⟨FUEL, iter_ok (F := fun n v1 v2 v3 v4 v5 => iterK n (codeK Tryd.prog (EOBytes) 40 blpOBytes_5) (head (EOBytes) 5) ⟨[(3, .ref 81 0 v1 true 1), (19, .cl (.sli .u32 v2)), (20, .cl (.int .i64 v3)), (21, .cl (.int .i64 v4))], [(81, ⟨.ints .u8 v5, false⟩)]⟩ k) (Q := fun f => f _ _ _ _ _ = some r) rfl (fun n => by kernel_rfl) h⟩
 ·cases h
theorem loopsOBytes : ∀ c, Tryd.f106.body = some c -> LoopsOk Tryd.prog (EOBytes) 40 c := by
 intro c hc
 cases hc
 exact ⟨trivial, ⟨noneL_ok _ (by kernel_rfl), ⟨trivial, ⟨⟨trivial, ⟨noneL_ok _ (by kernel_rfl), lp_some rfl (LOBytes_5_ok)⟩, jn_none rfl⟩, ⟨trivial, trivial, jn_none rfl⟩, jn_none rfl⟩, jn_none rfl⟩, jn_none rfl⟩, jn_none rfl⟩
noncomputable def gOBytes (o : LI) : OO :=
 let r1 : Bool := oidFit o
 cond (!r1) (
 some (.ret [.cl (.sli .u8 [])] []))
 (
 cond (decide ((0 : Int) < ((o.length : Nat) : Int))) (
 Option.bind (o[0]?) fun (e2 : Int) =>
 let x3 : Int := IntKind.u32.wrap ((40 : Int) * e2)
 cond (decide ((1 : Int) < ((o.length : Nat) : Int))) (
 Option.bind (o[1]?) fun (e4 : Int) =>
 let x5 : Int := IntKind.u32.wrap (x3 + e4)
 cond (u32Ok x5) (
 let r6 : Nat := (oidGroups x5).length
 let r7 : LI := oidGroups x5
 cond (decide ((2 : Int) <= ((o.length : Nat) : Int))) (
 let l8 : LI := List.drop 2 o
 shut (lpOBytes_5
 (fun y9 y10 =>
 some (.ret [.cl (.sli .u8 y10)] []))
 FUEL) r6 l8 ((l8.length : Nat) : Int) 0 r7) none) none) none) none)
theorem gOBytes_eq (o : LI) : bodyK Tryd.prog (EOBytes) 40 false Tryd.f106 [.cl (.sli .u32 o)] [] = gOBytes o := by kernel_rfl

noncomputable def lpVBNum_3s (again : Int -> LI -> Int -> Int -> OO) (k0 : Int -> OO) (v1 : Int) (v2 : LI) (v3 v4 : Int) : OO :=
 cond (decide (v4 < v3)) (
 getK v2 v4 fun e1 =>
 let x2 : Int := IntKind.u64.wrap (v1 * 2 ^ 8)
 let x3 : Int := IntKind.u64.wrap e1
 let x4 : Int := IntKind.u64.wrap ((BitVec.ofInt 64 x2 ||| BitVec.ofInt 64 x3).toNat)
 let x5 : Int := IntKind.i64.wrap (v4 + 1)
 again x4 v2 v3 x5)
 (
 k0 v1)
noncomputable def lpVBNum_3 (k0 : Int -> OO) : Nat -> Int -> LI -> Int -> Int -> OO := iterF (fun a => lpVBNum_3s a k0) (fun _ _ _ _ => none)
noncomputable def LVBNum_3 : St -> (KT) -> OO := fun σ k => match σ with
 | ⟨[(q1, .cl (.int .u64 v1)), (q2, .cl (.sli .u8 v2)), (q3, .cl (.int .i64 v3)), (q4, .cl (.int .i64 v4))], []⟩ => cond (Nat.beq q1 3 && Nat.beq q2 6 && Nat.beq q3 7 && Nat.beq q4 8) (shut (lpVBNum_3 (fun y1 => k (.exit 0) ⟨[(3, .cl (.int .u64 y1))], []⟩) FUEL) v1 v2 v3 v4) none
 | _ => none
noncomputable def EVBNum : Env := {
 orc := fun _ => fun _ _ => Tree.fail
 pre := fun _ => fun _ _ => true
 live := fun r => cond (Nat.beq r 3) ([3, 6, 7, 8]) ([])
 glob := glVal
 nt := 19
 lp := fun r => cond (Nat.beq r 3) (some (LVBNum_3)) (none)
 xl := fun r => cond (Nat.beq r 0) (some [2]) (cond (Nat.beq r 1) (some [3]) (none))
}
noncomputable def blpVBNum_3 : Code := (Cd.fst (Cd.fst (Cd.snd (Cd.fst (Cd.snd (Cd.snd (Tryd.f120.body.getD .skip)))))))
theorem LVBNum_3_ok : LpOk Tryd.prog (EVBNum) 40 blpVBNum_3 3 LVBNum_3 := by
 intro σ k r h
 unfold LVBNum_3 at h
 split at h
 ·replace h := cond_some h
  obtain ⟨hc, h⟩ := h
  simp only [Bool.and_eq_true, beq_prop, decide_eq_true_eq, Bool.not_eq_true'] at hc
  obtain ⟨⟨⟨rfl, rfl⟩, rfl⟩, rfl⟩ := hc
  rw [shut_eq] at h
  exact ⟨FUEL, iter_ok (F := fun n v1 v2 v3 v4 => iterK n (codeK Tryd.prog (EVBNum) 40 blpVBNum_3) (head (EVBNum) 3) ⟨[(3, .cl (.int .u64 v1)), (6, .cl (.sli .u8 v2)), (7, .cl (.int .i64 v3)), (8, .cl (.int .i64 v4))], []⟩ k) (Q := fun f => f _ _ _ _ = some r) rfl (fun n => by kernel_rfl) h⟩
 ·cases h
theorem loopsVBNum : ∀ c, Tryd.f120.body = some c -> LoopsOk Tryd.prog (EVBNum) 40 c := by
 intro c hc
 cases hc
 exact ⟨trivial, ⟨trivial, ⟨⟨trivial, ⟨noneL_ok _ (by kernel_rfl), lp_some rfl (LVBNum_3_ok)⟩, jn_none rfl⟩, ⟨trivial, trivial, jn_none rfl⟩, jn_none rfl⟩, jn_none rfl⟩, jn_none rfl⟩
noncomputable def gVBNum (b : LI) : OO :=
 shut (lpVBNum_3
 (fun y1 =>
 some (.ret [.cl (.int .u64 y1)] []))
 FUEL) 0 b ((b.length : Nat) : Int) 0
theorem gVBNum_eq (b : LI) : bodyK Tryd.prog (EVBNum) 40 false Tryd.f120 [.cl (.sli .u8 b)] [] = gVBNum b := by kernel_rfl

noncomputable def EVLe : Env := {
 orc := fun _ => fun _ _ => Tree.fail
 pre := fun _ => fun _ _ => true
 live := fun r => cond (Nat.beq r 5) ([0, 5, 16, 17]) ([])
 glob := glVal
 nt := 30
 xl := fun r => cond (Nat.beq r 0) (some [4]) (cond (Nat.beq r 1) (some [5]) (none))
}
theorem loopsVLe : ∀ c, Tryd.f117.body = some c -> LoopsOk Tryd.prog (EVLe) 40 c := by
 intro c hc
 cases hc
 exact noneL_ok _ (by kernel_rfl)
noncomputable def gVLe (n : Int) : OO :=
 let x1 : Int := Int.fdiv n (2 ^ 0)
 let x2 : Int := IntKind.u8.wrap x1
 let x3 : Int := Int.fdiv n (2 ^ 8)
 let x4 : Int := IntKind.u8.wrap x3
 let x5 : Int := Int.fdiv n (2 ^ 16)
 let x6 : Int := IntKind.u8.wrap x5
 let x7 : Int := Int.fdiv n (2 ^ 24)
 let x8 : Int := IntKind.u8.wrap x7
 let x9 : Int := Int.fdiv n (2 ^ 32)
 let x10 : Int := IntKind.u8.wrap x9
 let x11 : Int := Int.fdiv n (2 ^ 40)
 let x12 : Int := IntKind.u8.wrap x11
 let x13 : Int := Int.fdiv n (2 ^ 48)
 let x14 : Int := IntKind.u8.wrap x13
 let x15 : Int := Int.fdiv n (2 ^ 56)
 let x16 : Int := IntKind.u8.wrap x15
 some (.ret [.ref 0 0 8 true 1] [some ⟨.ints .u8 [x2, x4, x6, x8, x10, x12, x14, x16], false⟩])
theorem gVLe_eq (n : Int) : bodyK Tryd.prog (EVLe) 40 true Tryd.f117 [.cl (.int .u64 n), .cl (.int .i64 8)] [] = gVLe n := by kernel_rfl

noncomputable def EVReverse : Env := {
 orc := fun _ => fun _ _ => Tree.fail
 pre := fun _ => fun _ _ => true
 live := fun r => cond (Nat.beq r 1) ([0, 2, 3]) ([])
 glob := glVal
 nt := 28
 xl := fun r => cond (Nat.beq r 0) (some []) (cond (Nat.beq r 1) (some []) (none))
}
theorem loopsVReverse : ∀ c, Tryd.f118.body = some c -> LoopsOk Tryd.prog (EVReverse) 40 c := by
 intro c hc
 cases hc
 exact noneL_ok _ (by kernel_rfl)
noncomputable def gVReverse (l : LI) : OO :=
 Option.bind (l[7]?) fun (e1 : Int) =>
 Option.bind (l[0]?) fun (e2 : Int) =>
 let l3 : LI := l.set 0 e1
 let l4 : LI := l3.set 7 e2
 Option.bind (l4[6]?) fun (e5 : Int) =>
 Option.bind (l4[1]?) fun (e6 : Int) =>
 let l7 : LI := l4.set 1 e5
 let l8 : LI := l7.set 6 e6
 Option.bind (l8[5]?) fun (e9 : Int) =>
 Option.bind (l8[2]?) fun (e10 : Int) =>
 let l11 : LI := l8.set 2 e9
 let l12 : LI := l11.set 5 e10
 Option.bind (l12[4]?) fun (e13 : Int) =>
 Option.bind (l12[3]?) fun (e14 : Int) =>
 let l15 : LI := l12.set 3 e13
 let l16 : LI := l15.set 4 e14
 some (.ret [] [some ⟨.ints .u8 l16, false⟩])
theorem gVReverse_eq (l : LI) : bodyK Tryd.prog (EVReverse) 40 false Tryd.f118 [.ref 0 0 8 true 1] [⟨.ints .u8 l, false⟩] = gVReverse l := by kernel_rfl

noncomputable def EVBe : Env := {
 orc := fun g => cond (Nat.beq g 117) SVLe (cond (Nat.beq g 118) SVReverse (fun _ _ => Tree.fail))
 pre := fun g => cond (Nat.beq g 117) preVLe (cond (Nat.beq g 118) preVReverse (fun _ _ => true))
 byref := fun g => cond (Nat.beq g 118) ([0]) ([])
 keep := fun g => cond (Nat.beq g 117) true (false)
 glob := glVal
 nt := 12
 xl := fun r => cond (Nat.beq r 0) (some [4]) (none)
}
theorem loopsVBe : ∀ c, Tryd.f73.body = some c -> LoopsOk Tryd.prog (EVBe) 40 c := by
 intro c hc
 cases hc
 exact noneL_ok _ (by kernel_rfl)
noncomputable def gVBe (n : Int) : OO :=
 cond (u64Ok n) (
 let r1 : LI := vLe n
 cond (revOk r1) (
 let r2 : LI := vRev r1
 some (.ret [.cl (.sli .u8 r2)] [])) none) none
theorem gVBe_eq (n : Int) : bodyK Tryd.prog (EVBe) 40 false Tryd.f73 [.cl (.int .u64 n), .cl (.int .i64 8)] [] = gVBe n := by kernel_rfl

noncomputable def lpVInt_2s (again : LI -> OO) (k0 : LI -> OO) (v1 : LI) : OO :=
 cond (decide ((1 : Int) < ((v1.length : Nat) : Int))) (
 cond (decide ((0 : Int) < ((v1.length : Nat) : Int))) (
 Option.bind (v1[0]?) fun (e3 : Int) =>
 cond (decide (e3 = 0)) (
 cond (decide ((1 : Int) < ((v1.length : Nat) : Int))) (
 Option.bind (v1[1]?) fun (e4 : Int) =>
 cond (decide (e4 < 128)) (
 cond (decide ((1 : Int) <= ((v1.length : Nat) : Int))) (
 let l5 : LI := List.drop 1 v1
 again l5) none)
 (
 cond (decide ((0 : Int) < ((v1.length : Nat) : Int))) (
 Option.bind (v1[0]?) fun (e6 : Int) =>
 cond (decide (e6 = 255)) (
 cond (decide ((1 : Int) < ((v1.length : Nat) : Int))) (
 Option.bind (v1[1]?) fun (e7 : Int) =>
 cond (decide ((128 : Int) <= e7)) (
 cond (decide ((1 : Int) <= ((v1.length : Nat) : Int))) (
 let l8 : LI := List.drop 1 v1
 again l8) none)
 (
 k0 v1)) none)
 (
 k0 v1)) none)) none)
 (
 cond (decide ((0 : Int) < ((v1.length : Nat) : Int))) (
 Option.bind (v1[0]?) fun (e9 : Int) =>
 cond (decide (e9 = 255)) (
 cond (decide ((1 : Int) < ((v1.length : Nat) : Int))) (
 Option.bind (v1[1]?) fun (e10 : Int) =>
 cond (decide ((128 : Int) <= e10)) (
 cond (decide ((1 : Int) <= ((v1.length : Nat) : Int))) (
 let l11 : LI := List.drop 1 v1
 again l11) none)
 (
 k0 v1)) none)
 (
 k0 v1)) none)) none)
 (
 k0 v1)
noncomputable def lpVInt_2 (k0 : LI -> OO) : Nat -> LI -> OO := iterF (fun a => lpVInt_2s a k0) (fun _ => none)
noncomputable def LVInt_2 : St -> (KT) -> OO := fun σ k => match σ with
 | ⟨[(q1, .ptr q2 q3 q4), (q5, .cl (.sli .u8 v1))], [(q6, ⟨.var [.cl (.int .i64 q7), .nils, .nils], false⟩)]⟩ => cond (Nat.beq q1 2 && Nat.beq q2 66 && Nat.beq q3 0 && Nat.beq q4 0 && Nat.beq q5 3 && Nat.beq q6 66 && decide (q7 = 0)) (shut (lpVInt_2 (fun y1 => k (.exit 0) ⟨[(2, .ptr 66 0 0), (3, .cl (.sli .u8 y1))], [(66, ⟨.var [.cl (.int .i64 0), .nils, .nils], false⟩)]⟩) FUEL) v1) none
 | _ => none
noncomputable def EVInt : Env := {
 orc := fun g => cond (Nat.beq g 73) SVBe (fun _ _ => Tree.fail)
 pre := fun g => cond (Nat.beq g 73) preVBe (fun _ _ => true)
 live := fun r => cond (Nat.beq r 2) ([2, 3]) ([])
 glob := glVal
 nt := 38
 lp := fun r => cond (Nat.beq r 2) (some (LVInt_2)) (none)
 xl := fun r => cond (Nat.beq r 0) (some [2]) (cond (Nat.beq r 1) (some [2, 3]) (none))
}
noncomputable def blpVInt_2 : Code := (Cd.fst (Cd.fst (Cd.fst (Cd.snd (Cd.snd (Tryd.f14.body.getD .skip))))))
theorem LVInt_2_ok : LpOk Tryd.prog (EVInt) 40 blpVInt_2 2 LVInt_2 := by
 intro σ k r h
 unfold LVInt_2 at h
 split at h
 ·replace h := cond_some h
  obtain ⟨hc, h⟩ := h
  simp only [Bool.and_eq_true, beq_prop, decide_eq_true_eq, Bool.not_eq_true'] at hc
  obtain ⟨⟨⟨⟨⟨⟨rfl, rfl⟩, rfl⟩, rfl⟩, rfl⟩, rfl⟩, rfl⟩ := hc
  rw [shut_eq] at h
  exact ⟨FUEL, iter_ok (F := fun n v1 => iterK n (codeK Tryd.prog (EVInt) 40 blpVInt_2) (head (EVInt) 2) ⟨[(2, .ptr 66 0 0), (3, .cl (.sli .u8 v1))], [(66, ⟨.var [.cl (.int .i64 0), .nils, .nils], false⟩)]⟩ k) (Q := fun f => f _ = some r) rfl (fun n => by kernel_rfl) h⟩
 ·cases h
theorem loopsVInt : ∀ c, Tryd.f14.body = some c -> LoopsOk Tryd.prog (EVInt) 40 c := by
 intro c hc
 cases hc
 exact ⟨trivial, ⟨trivial, ⟨⟨noneL_ok _ (by kernel_rfl), lp_some rfl (LVInt_2_ok)⟩, ⟨trivial, trivial, jn_none rfl⟩, jn_none rfl⟩, jn_none rfl⟩, jn_none rfl⟩
noncomputable def gVInt (n : Int) : OO :=
 let x1 : Int := IntKind.u64.wrap n
 cond (u64Ok x1) (
 let r2 : LI := vBe x1
 shut (lpVInt_2
 (fun y3 =>
 some (.ret [.cl (.agg [.int .i64 2, .sli .u8 y3, .slg 3 []])] []))
 FUEL) r2) none
theorem gVInt_eq (n : Int) : bodyK Tryd.prog (EVInt) 40 false Tryd.f14 [.cl (.int .i64 n)] [] = gVInt n := by kernel_rfl

noncomputable def EVNumber : Env := {
 orc := fun g => cond (Nat.beq g 120) SVBNum (fun _ _ => Tree.fail)
 pre := fun g => cond (Nat.beq g 120) preVBNum (fun _ _ => true)
 glob := glVal
 nt := 19
 xl := fun r => cond (Nat.beq r 0) (some [2, 3]) (none)
}
theorem loopsVNumber : ∀ c, Tryd.f75.body = some c -> LoopsOk Tryd.prog (EVNumber) 40 c := by
 intro c hc
 cases hc
 exact noneL_ok _ (by kernel_rfl)
noncomputable def gVNumber (b : LI) : OO :=
 cond (decide ((8 : Int) < ((b.length : Nat) : Int))) (
 some (.ret [.cl (.int .i64 0), .cl (.int .i64 8)] []))
 (
 let x1 : Int := IntKind.i64.wrap ((8 : Int) * ((b.length : Nat) : Int))
 let x2 : Int := IntKind.i64.wrap ((64 : Int) - x1)
 cond (num8 b) (
 let r3 : Int := bytesNum b
 cond (decide (x2 < 0)) none (
 let x4 : Int := IntKind.u64.wrap (r3 * 2 ^ (min x2.toNat 64))
 let x5 : Int := IntKind.i64.wrap x4
 cond (decide (x2 < 0)) none (
 let x6 : Int := Int.fdiv x5 (2 ^ (min x2.toNat 64))
 some (.ret [.cl (.int .i64 x6), .cl (.int .i64 0)] [])))) none)
theorem gVNumber_eq (b : LI) : bodyK Tryd.prog (EVNumber) 40 false Tryd.f75 [.cl (.sli .u8 b)] [] = gVNumber b := by kernel_rfl

noncomputable def EVTime1 : Env := {
 orc := fun g => cond (Nat.beq g 85) SSRead (fun _ _ => Tree.fail)
 pre := fun g => cond (Nat.beq g 85) preSRead (fun _ _ => true)
 glob := glVal
 nt := 9
 xl := fun r => cond (Nat.beq r 0) (some [2, 3]) (none)
}
theorem loopsVTime1 : ∀ c, Tryd.f84.body = some c -> LoopsOk Tryd.prog (EVTime1) 40 c := by
 intro c hc
 cases hc
 exact noneL_ok _ (by kernel_rfl)
noncomputable def gVTime1 (b : LI) : OO :=
 let s1 : ByteArray := strOf b
 let r2 : Int := (stRead s1).1
 let r3 : Int := (stRead s1).2
 some (.ret [.cl (.int .i64 r2), .cl (.int .i64 r3)] [])
theorem gVTime1_eq (b : LI) : bodyK Tryd.prog (EVTime1) 40 false Tryd.f84 [.cl (.sli .u8 b)] [] = gVTime1 b := by kernel_rfl

noncomputable def EVToldI : Env := {
 orc := fun g => cond (Nat.beq g 75) SVNumber (cond (Nat.beq g 84) SVTime1 (cond (Nat.beq g 119) SDFit_ (fun _ _ => Tree.fail)))
 pre := fun g => cond (Nat.beq g 75) preVNumber (cond (Nat.beq g 84) preVTime1 (cond (Nat.beq g 119) preDFit_ (fun _ _ => true)))
 glob := glVal
 nt := 35
 xl := fun r => cond (Nat.beq r 0) (some [6, 7]) (none)
}
theorem loopsVToldI : ∀ c, Tryd.f74.body = some c -> LoopsOk Tryd.prog (EVToldI) 40 c := by
 intro c hc
 cases hc
 exact noneL_ok _ (by kernel_rfl)
noncomputable def gVToldI_0 (t : Int) (b : LI) (k : LC) : OO :=
 cond (!decide (t = 2)) (
 some (.ret [.cl (.int .i64 0), .cl (.int .i64 4)] []))
 (
 cond (decide ((0 : Int) < ((k.length : Nat) : Int))) (
 some (.ret [.cl (.int .i64 0), .cl (.int .i64 5)] []))
 (
 cond (isS ([.int .i64 2, .sli .u8 b, .slg 3 []])) (
 let r1 : Bool := ndFit ([.int .i64 2, .sli .u8 b, .slg 3 []])
 cond (!r1) (
 some (.ret [.cl (.int .i64 0), .cl (.int .i64 5)] []))
 (
 cond (bytesOk b) (
 let r2 : Int := (vNumber b).1
 let r3 : Int := (vNumber b).2
 some (.ret [.cl (.int .i64 r2), .cl (.int .i64 r3)] [])) none)) none))
theorem gVToldI_0_eq (t : Int) (b : LI) (k : LC) : bodyK Tryd.prog (EVToldI) 40 false Tryd.f74 [.cl (.agg [.int .i64 t, .sli .u8 b, .slg 3 k]), .cl (.int .i64 2), .cl (.fn (.func 75) [] [])] [] = gVToldI_0 t b k := by kernel_rfl
noncomputable def gVToldI_1 (t : Int) (b : LI) (k : LC) : OO :=
 cond (!decide (t = 24)) (
 some (.ret [.cl (.int .i64 0), .cl (.int .i64 4)] []))
 (
 cond (decide ((0 : Int) < ((k.length : Nat) : Int))) (
 some (.ret [.cl (.int .i64 0), .cl (.int .i64 5)] []))
 (
 cond (isS ([.int .i64 24, .sli .u8 b, .slg 3 []])) (
 let r1 : Bool := ndFit ([.int .i64 24, .sli .u8 b, .slg 3 []])
 cond (!r1) (
 some (.ret [.cl (.int .i64 0), .cl (.int .i64 5)] []))
 (
 let r2 : Int := (stRead (strOf b)).1
 let r3 : Int := (stRead (strOf b)).2
 some (.ret [.cl (.int .i64 r2), .cl (.int .i64 r3)] []))) none))
theorem gVToldI_1_eq (t : Int) (b : LI) (k : LC) : bodyK Tryd.prog (EVToldI) 40 false Tryd.f74 [.cl (.agg [.int .i64 t, .sli .u8 b, .slg 3 k]), .cl (.int .i64 24), .cl (.fn (.func 84) [] [])] [] = gVToldI_1 t b k := by kernel_rfl

noncomputable def EVToldO : Env := {
 orc := fun g => cond (Nat.beq g 82) SOParse (cond (Nat.beq g 119) SDFit_ (fun _ _ => Tree.fail))
 pre := fun g => cond (Nat.beq g 82) preOParse (cond (Nat.beq g 119) preDFit_ (fun _ _ => true))
 glob := glVal
 nt := 35
 xl := fun r => cond (Nat.beq r 0) (some [6, 7]) (none)
}
theorem loopsVToldO : ∀ c, Tryd.f81.body = some c -> LoopsOk Tryd.prog (EVToldO) 40 c := by
 intro c hc
 cases hc
 exact noneL_ok _ (by kernel_rfl)
noncomputable def gVToldO (t : Int) (b : LI) (k : LC) : OO :=
 cond (!decide (t = 6)) (
 some (.ret [.cl (.sli .u32 []), .cl (.int .i64 4)] []))
 (
 cond (decide ((0 : Int) < ((k.length : Nat) : Int))) (
 some (.ret [.cl (.sli .u32 []), .cl (.int .i64 5)] []))
 (
 cond (isS ([.int .i64 6, .sli .u8 b, .slg 3 []])) (
 let r1 : Bool := ndFit ([.int .i64 6, .sli .u8 b, .slg 3 []])
 cond (!r1) (
 some (.ret [.cl (.sli .u32 []), .cl (.int .i64 5)] []))
 (
 cond (bytesOk b) (
 let r2 : LI := (oidParse b).1
 let r3 : Int := (oidParse b).2
 some (.ret [.cl (.sli .u32 r2), .cl (.int .i64 r3)] [])) none)) none))
theorem gVToldO_eq (t : Int) (b : LI) (k : LC) : bodyK Tryd.prog (EVToldO) 40 false Tryd.f81 [.cl (.agg [.int .i64 t, .sli .u8 b, .slg 3 k]), .cl (.int .i64 6), .cl (.fn (.func 82) [] [])] [] = gVToldO t b k := by kernel_rfl

noncomputable def EVIntOf : Env := {
 orc := fun g => cond (Nat.beq g 74) SVToldI (cond (Nat.beq g 75) SVNumber (fun _ _ => Tree.fail))
 pre := fun g => cond (Nat.beq g 74) preVToldI (cond (Nat.beq g 75) preVNumber (fun _ _ => true))
 glob := glVal
 nt := 8
 xl := fun r => cond (Nat.beq r 0) (some [2, 3]) (none)
}
theorem loopsVIntOf : ∀ c, Tryd.f18.body = some c -> LoopsOk Tryd.prog (EVIntOf) 40 c := by
 intro c hc
 cases hc
 exact noneL_ok _ (by kernel_rfl)
noncomputable def gVIntOf (t : Int) (b : LI) (k : LC) : OO :=
 cond (isS [.int .i64 t, .sli .u8 b, .slg 3 k]) (
 let r1 : Int := (vIntOf t b k).1
 let r2 : Int := (vIntOf t b k).2
 some (.ret [.cl (.int .i64 r1), .cl (.int .i64 r2)] [])) none
theorem gVIntOf_eq (t : Int) (b : LI) (k : LC) : bodyK Tryd.prog (EVIntOf) 40 false Tryd.f18 [.cl (.agg [.int .i64 t, .sli .u8 b, .slg 3 k])] [] = gVIntOf t b k := by kernel_rfl

noncomputable def EVBytesOf : Env := {
 orc := fun g => cond (Nat.beq g 78) SSClone (fun _ _ => Tree.fail)
 pre := fun g => cond (Nat.beq g 78) preSClone (fun _ _ => true)
 glob := glVal
 nt := 16
 xl := fun r => cond (Nat.beq r 0) (some [2, 3]) (none)
}
theorem loopsVBytesOf : ∀ c, Tryd.f20.body = some c -> LoopsOk Tryd.prog (EVBytesOf) 40 c := by
 intro c hc
 cases hc
 exact noneL_ok _ (by kernel_rfl)
noncomputable def gVBytesOf (t : Int) (b : LI) (k : LC) : OO :=
 cond (!decide (t = 4)) (
 some (.ret [.cl (.sli .u8 []), .cl (.int .i64 4)] []))
 (
 cond (decide ((0 : Int) < ((k.length : Nat) : Int))) (
 some (.ret [.cl (.sli .u8 []), .cl (.int .i64 5)] []))
 (
 cond (lenOk b) (
 some (.ret [.cl (.sli .u8 b), .cl (.int .i64 0)] [])) none))
theorem gVBytesOf_eq (t : Int) (b : LI) (k : LC) : bodyK Tryd.prog (EVBytesOf) 40 false Tryd.f20 [.cl (.agg [.int .i64 t, .sli .u8 b, .slg 3 k])] [] = gVBytesOf t b k := by kernel_rfl

noncomputable def EVIdOf : Env := {
 orc := fun g => cond (Nat.beq g 81) SVToldO (cond (Nat.beq g 82) SOParse (fun _ _ => Tree.fail))
 pre := fun g => cond (Nat.beq g 81) preVToldO (cond (Nat.beq g 82) preOParse (fun _ _ => true))
 glob := glVal
 nt := 8
 xl := fun r => cond (Nat.beq r 0) (some [2, 3]) (none)
}
theorem loopsVIdOf : ∀ c, Tryd.f24.body = some c -> LoopsOk Tryd.prog (EVIdOf) 40 c := by
 intro c hc
 cases hc
 exact noneL_ok _ (by kernel_rfl)
noncomputable def gVIdOf (t : Int) (b : LI) (k : LC) : OO :=
 cond (isS [.int .i64 t, .sli .u8 b, .slg 3 k]) (
 let r1 : LI := (vIdOf t b k).1
 let r2 : Int := (vIdOf t b k).2
 some (.ret [.cl (.sli .u32 r1), .cl (.int .i64 r2)] [])) none
theorem gVIdOf_eq (t : Int) (b : LI) (k : LC) : bodyK Tryd.prog (EVIdOf) 40 false Tryd.f24 [.cl (.agg [.int .i64 t, .sli .u8 b, .slg 3 k])] [] = gVIdOf t b k := by kernel_rfl

noncomputable def EVMade : Env := {
 orc := fun g => cond (Nat.beq g 119) SDFit_ (fun _ _ => Tree.fail)
 pre := fun g => cond (Nat.beq g 119) preDFit_ (fun _ _ => true)
 glob := glVal
 nt := 15
 xl := fun r => cond (Nat.beq r 0) (some [4, 5]) (none)
}
theorem loopsVMade : ∀ c, Tryd.f104.body = some c -> LoopsOk Tryd.prog (EVMade) 40 c := by
 intro c hc
 cases hc
 exact noneL_ok _ (by kernel_rfl)
noncomputable def gVMade (g : Int) (b : LI) : OO :=
 cond (isS ([.int .i64 g, .sli .u8 b, .slg 3 []])) (
 let r1 : Bool := ndFit ([.int .i64 g, .sli .u8 b, .slg 3 []])
 cond (!r1) (
 some (.ret [.cl (.agg [.int .i64 0, .sli .u8 [], .slg 3 []]), .cl (.int .i64 5)] []))
 (
 some (.ret [.cl (.agg [.int .i64 g, .sli .u8 b, .slg 3 []]), .cl (.int .i64 0)] []))) none
theorem gVMade_eq (g : Int) (b : LI) : bodyK Tryd.prog (EVMade) 40 false Tryd.f104 [.cl (.int .i64 g), .cl (.sli .u8 b)] [] = gVMade g b := by kernel_rfl

noncomputable def EVId : Env := {
 orc := fun g => cond (Nat.beq g 104) SVMade (cond (Nat.beq g 106) SOBytes (fun _ _ => Tree.fail))
 pre := fun g => cond (Nat.beq g 104) preVMade (cond (Nat.beq g 106) preOBytes (fun _ _ => true))
 glob := glVal
 nt := 9
 xl := fun r => cond (Nat.beq r 0) (some [2, 3]) (none)
}
theorem loopsVId : ∀ c, Tryd.f59.body = some c -> LoopsOk Tryd.prog (EVId) 40 c := by
 intro c hc
 cases hc
 exact noneL_ok _ (by kernel_rfl)
noncomputable def gVId (o : LI) : OO :=
 cond (u32sOk o) (
 let r1 : LI := oidBytes o
 cond (madeOk 6 r1) (
 let r2 : Int := (vMade 6 r1).1
 let r3 : LI := (vMade 6 r1).2.1
 let r4 : LC := noKids
 let r5 : Int := (vMade 6 r1).2.2
 some (.ret [.cl (.agg [.int .i64 r2, .sli .u8 r3, .slg 3 r4]), .cl (.int .i64 r5)] [])) none) none
theorem gVId_eq (o : LI) : bodyK Tryd.prog (EVId) 40 false Tryd.f59 [.cl (.sli .u32 o)] [] = gVId o := by kernel_rfl

noncomputable def EVBytes : Env := {
 orc := fun g => cond (Nat.beq g 78) SSClone (fun _ _ => Tree.fail)
 pre := fun g => cond (Nat.beq g 78) preSClone (fun _ _ => true)
 glob := glVal
 nt := 6
 xl := fun r => cond (Nat.beq r 0) (some [2]) (none)
}
theorem loopsVBytes : ∀ c, Tryd.f64.body = some c -> LoopsOk Tryd.prog (EVBytes) 40 c := by
 intro c hc
 cases hc
 exact noneL_ok _ (by kernel_rfl)
noncomputable def gVBytes (b : LI) : OO :=
 cond (lenOk b) (
 some (.ret [.cl (.agg [.int .i64 4, .sli .u8 b, .slg 3 []])] [])) none
theorem gVBytes_eq (b : LI) : bodyK Tryd.prog (EVBytes) 40 false Tryd.f64 [.cl (.sli .u8 b)] [] = gVBytes b := by kernel_rfl

noncomputable def EVClone : Env := {
 orc := fun _ => fun _ _ => Tree.fail
 pre := fun _ => fun _ _ => true
 glob := glVal
 nt := 8
 xl := fun r => cond (Nat.beq r 0) (some [2]) (none)
}
theorem loopsVClone : ∀ c, Tryd.f72.body = some c -> LoopsOk Tryd.prog (EVClone) 40 c := by
 intro c hc
 cases hc
 exact noneL_ok _ (by kernel_rfl)
noncomputable def gVClone (l : LC) : OO :=
 cond (Nat.beq l.length 0) (
 bothK (
 some (.ret [.cl (.slg 3 [])] []))
 (
 let l1 : LC := [] ++ l
 rmK l1.length 56 <|
 some (.ret [.cl (.slg 3 l1)] [])))
 (
 let l2 : LC := [] ++ l
 rmK l2.length 56 <|
 some (.ret [.cl (.slg 3 l2)] []))
theorem gVClone_eq (l : LC) : bodyK Tryd.prog (EVClone) 40 false Tryd.f72 [.cl (.slg 3 l)] [] = gVClone l := by kernel_rfl

noncomputable def EVSeq : Env := {
 orc := fun g => cond (Nat.beq g 72) SVClone (fun _ _ => Tree.fail)
 pre := fun g => cond (Nat.beq g 72) preVClone (fun _ _ => true)
 glob := glVal
 nt := 6
 xl := fun r => cond (Nat.beq r 0) (some [2]) (none)
}
theorem loopsVSeq : ∀ c, Tryd.f53.body = some c -> LoopsOk Tryd.prog (EVSeq) 40 c := by
 intro c hc
 cases hc
 exact noneL_ok _ (by kernel_rfl)
noncomputable def gVSeq (l : LC) : OO :=
 cond (lenOkC l) (
 some (.ret [.cl (.agg [.int .i64 48, .sli .u8 [], .slg 3 l])] [])) none
theorem gVSeq_eq (l : LC) : bodyK Tryd.prog (EVSeq) 40 false Tryd.f53 [.cl (.slg 3 l)] [] = gVSeq l := by kernel_rfl

noncomputable def EVKids : Env := {
 orc := fun g => cond (Nat.beq g 72) SVClone (cond (Nat.beq g 100) SDBoxed (fun _ _ => Tree.fail))
 pre := fun g => cond (Nat.beq g 72) preVClone (cond (Nat.beq g 100) preDBoxed (fun _ _ => true))
 glob := glVal
 nt := 24
 xl := fun r => cond (Nat.beq r 0) (some [4, 5]) (none)
}
theorem loopsVKids : ∀ c, Tryd.f51.body = some c -> LoopsOk Tryd.prog (EVKids) 40 c := by
 intro c hc
 cases hc
 exact noneL_ok _ (by kernel_rfl)
noncomputable def gVKids (t : Int) (b : LI) (k : LC) (g : Int) : OO :=
 cond (!decide (t = g)) (
 some (.ret [.cl (.slg 3 []), .cl (.int .i64 4)] []))
 (
 let r1 : Bool := derBoxed g
 cond (!r1) (
 some (.ret [.cl (.slg 3 []), .cl (.int .i64 4)] []))
 (
 cond (decide ((0 : Int) < ((b.length : Nat) : Int))) (
 some (.ret [.cl (.slg 3 []), .cl (.int .i64 5)] []))
 (
 cond (lenOkC k) (
 some (.ret [.cl (.slg 3 k), .cl (.int .i64 0)] [])) none)))
theorem gVKids_eq (t : Int) (b : LI) (k : LC) (g : Int) : bodyK Tryd.prog (EVKids) 40 false Tryd.f51 [.cl (.agg [.int .i64 t, .sli .u8 b, .slg 3 k]), .cl (.int .i64 g)] [] = gVKids t b k g := by kernel_rfl

end Go.Proofs.YtfkpjbbkdkcdcaaDoorA
