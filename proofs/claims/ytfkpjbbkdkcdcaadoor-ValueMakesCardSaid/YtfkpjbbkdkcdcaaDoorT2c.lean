/-
 What the reading of apostille/oid.put comes to, printed by a program. Conditions: none.
-/
import Derived.Test.YtfkpjbbkdkcdcaaDoorT1
set_option linter.unusedVariables false
set_option linter.unusedSimpArgs false
set_option maxRecDepth 100000
namespace Go.Proofs.YtfkpjbbkdkcdcaaDoorA
noncomputable def jnOPut_2 (k0 : Int -> Int -> Int -> Int -> Int -> Option Out) (k1 : Int -> Int -> Int -> Int -> Option Out) (k2 : Int -> Int -> Int -> Option Out) (k3 : Int -> Int -> Option Out) (k4 : Int -> Option Out) (v1 : Int) : Option Out :=
 let x1 : Int := Int.fdiv v1 (2 ^ 28)
 cond (!decide (x1 = 0)) (
  let x2 : Int := Int.fdiv v1 (2 ^ 28)
  let x3 : Int := IntKind.u8.wrap x2
  let x4 : Int := IntKind.u8.wrap ((BitVec.ofInt 8 x3 ||| BitVec.ofInt 8 128).toNat)
  let x5 : Int := Int.fdiv v1 (2 ^ 21)
  cond (!decide (x5 = 0)) (
   let x6 : Int := Int.fdiv v1 (2 ^ 21)
   let x7 : Int := IntKind.u8.wrap x6
   let x8 : Int := IntKind.u8.wrap ((BitVec.ofInt 8 x7 ||| BitVec.ofInt 8 128).toNat)
   let x9 : Int := Int.fdiv v1 (2 ^ 14)
   cond (!decide (x9 = 0)) (
    let x10 : Int := Int.fdiv v1 (2 ^ 14)
    let x11 : Int := IntKind.u8.wrap x10
    let x12 : Int := IntKind.u8.wrap ((BitVec.ofInt 8 x11 ||| BitVec.ofInt 8 128).toNat)
    let x13 : Int := Int.fdiv v1 (2 ^ 7)
    cond (!decide (x13 = 0)) (
     let x14 : Int := Int.fdiv v1 (2 ^ 7)
     let x15 : Int := IntKind.u8.wrap x14
     let x16 : Int := IntKind.u8.wrap ((BitVec.ofInt 8 x15 ||| BitVec.ofInt 8 128).toNat)
     k0 v1 x4 x8 x12 x16)
    (
     k1 v1 x4 x8 x12))
   (
    let x17 : Int := Int.fdiv v1 (2 ^ 7)
    cond (!decide (x17 = 0)) (
     let x18 : Int := Int.fdiv v1 (2 ^ 7)
     let x19 : Int := IntKind.u8.wrap x18
     let x20 : Int := IntKind.u8.wrap ((BitVec.ofInt 8 x19 ||| BitVec.ofInt 8 128).toNat)
     k1 v1 x4 x8 x20)
    (
     k2 v1 x4 x8)))
  (
   let x21 : Int := Int.fdiv v1 (2 ^ 14)
   cond (!decide (x21 = 0)) (
    let x22 : Int := Int.fdiv v1 (2 ^ 14)
    let x23 : Int := IntKind.u8.wrap x22
    let x24 : Int := IntKind.u8.wrap ((BitVec.ofInt 8 x23 ||| BitVec.ofInt 8 128).toNat)
    let x25 : Int := Int.fdiv v1 (2 ^ 7)
    cond (!decide (x25 = 0)) (
     let x26 : Int := Int.fdiv v1 (2 ^ 7)
     let x27 : Int := IntKind.u8.wrap x26
     let x28 : Int := IntKind.u8.wrap ((BitVec.ofInt 8 x27 ||| BitVec.ofInt 8 128).toNat)
     k1 v1 x4 x24 x28)
    (
     k2 v1 x4 x24))
   (
    let x29 : Int := Int.fdiv v1 (2 ^ 7)
    cond (!decide (x29 = 0)) (
     let x30 : Int := Int.fdiv v1 (2 ^ 7)
     let x31 : Int := IntKind.u8.wrap x30
     let x32 : Int := IntKind.u8.wrap ((BitVec.ofInt 8 x31 ||| BitVec.ofInt 8 128).toNat)
     k2 v1 x4 x32)
    (
     k3 v1 x4))))
 (
  let x33 : Int := Int.fdiv v1 (2 ^ 21)
  cond (!decide (x33 = 0)) (
   let x34 : Int := Int.fdiv v1 (2 ^ 21)
   let x35 : Int := IntKind.u8.wrap x34
   let x36 : Int := IntKind.u8.wrap ((BitVec.ofInt 8 x35 ||| BitVec.ofInt 8 128).toNat)
   let x37 : Int := Int.fdiv v1 (2 ^ 14)
   cond (!decide (x37 = 0)) (
    let x38 : Int := Int.fdiv v1 (2 ^ 14)
    let x39 : Int := IntKind.u8.wrap x38
    let x40 : Int := IntKind.u8.wrap ((BitVec.ofInt 8 x39 ||| BitVec.ofInt 8 128).toNat)
    let x41 : Int := Int.fdiv v1 (2 ^ 7)
    cond (!decide (x41 = 0)) (
     let x42 : Int := Int.fdiv v1 (2 ^ 7)
     let x43 : Int := IntKind.u8.wrap x42
     let x44 : Int := IntKind.u8.wrap ((BitVec.ofInt 8 x43 ||| BitVec.ofInt 8 128).toNat)
     k1 v1 x36 x40 x44)
    (
     k2 v1 x36 x40))
   (
    let x45 : Int := Int.fdiv v1 (2 ^ 7)
    cond (!decide (x45 = 0)) (
     let x46 : Int := Int.fdiv v1 (2 ^ 7)
     let x47 : Int := IntKind.u8.wrap x46
     let x48 : Int := IntKind.u8.wrap ((BitVec.ofInt 8 x47 ||| BitVec.ofInt 8 128).toNat)
     k2 v1 x36 x48)
    (
     k3 v1 x36)))
  (
   let x49 : Int := Int.fdiv v1 (2 ^ 14)
   cond (!decide (x49 = 0)) (
    let x50 : Int := Int.fdiv v1 (2 ^ 14)
    let x51 : Int := IntKind.u8.wrap x50
    let x52 : Int := IntKind.u8.wrap ((BitVec.ofInt 8 x51 ||| BitVec.ofInt 8 128).toNat)
    let x53 : Int := Int.fdiv v1 (2 ^ 7)
    cond (!decide (x53 = 0)) (
     let x54 : Int := Int.fdiv v1 (2 ^ 7)
     let x55 : Int := IntKind.u8.wrap x54
     let x56 : Int := IntKind.u8.wrap ((BitVec.ofInt 8 x55 ||| BitVec.ofInt 8 128).toNat)
     k2 v1 x52 x56)
    (
     k3 v1 x52))
   (
    let x57 : Int := Int.fdiv v1 (2 ^ 7)
    cond (!decide (x57 = 0)) (
     let x58 : Int := Int.fdiv v1 (2 ^ 7)
     let x59 : Int := IntKind.u8.wrap x58
     let x60 : Int := IntKind.u8.wrap ((BitVec.ofInt 8 x59 ||| BitVec.ofInt 8 128).toNat)
     k3 v1 x60)
    (
     k4 v1))))
noncomputable def jnOPut_2_1 (k0 : Nat -> Int -> (List Int) -> Option Out) (k1 : Nat -> Int -> (List Int) -> Option Out) (v1 : Nat) (v2 : Int) (v3 : List Int) : Option Out :=
 let x1 : Int := Int.fdiv v2 (2 ^ 28)
 cond (!decide (x1 = 0)) (
  let x2 : Int := Int.fdiv v2 (2 ^ 28)
  let x3 : Int := IntKind.u8.wrap x2
  let x4 : Int := IntKind.u8.wrap ((BitVec.ofInt 8 x3 ||| BitVec.ofInt 8 128).toNat)
  let l5 : List Int := v3 ++ [x4]
  rmK l5.length 1 <|
  let x6 : Int := Int.fdiv v2 (2 ^ 21)
  cond (!decide (x6 = 0)) (
   let x7 : Int := Int.fdiv v2 (2 ^ 21)
   let x8 : Int := IntKind.u8.wrap x7
   let x9 : Int := IntKind.u8.wrap ((BitVec.ofInt 8 x8 ||| BitVec.ofInt 8 128).toNat)
   let l10 : List Int := l5 ++ [x9]
   rmK l10.length 1 <|
   let x11 : Int := Int.fdiv v2 (2 ^ 14)
   cond (!decide (x11 = 0)) (
    let x12 : Int := Int.fdiv v2 (2 ^ 14)
    let x13 : Int := IntKind.u8.wrap x12
    let x14 : Int := IntKind.u8.wrap ((BitVec.ofInt 8 x13 ||| BitVec.ofInt 8 128).toNat)
    let l15 : List Int := l10 ++ [x14]
    rmK l15.length 1 <|
    let x16 : Int := Int.fdiv v2 (2 ^ 7)
    cond (!decide (x16 = 0)) (
     let x17 : Int := Int.fdiv v2 (2 ^ 7)
     let x18 : Int := IntKind.u8.wrap x17
     let x19 : Int := IntKind.u8.wrap ((BitVec.ofInt 8 x18 ||| BitVec.ofInt 8 128).toNat)
     let l20 : List Int := l15 ++ [x19]
     rmK l20.length 1 <|
     k0 l20.length v2 l20)
    (
     k0 l15.length v2 l15))
   (
    let x21 : Int := Int.fdiv v2 (2 ^ 7)
    cond (!decide (x21 = 0)) (
     let x22 : Int := Int.fdiv v2 (2 ^ 7)
     let x23 : Int := IntKind.u8.wrap x22
     let x24 : Int := IntKind.u8.wrap ((BitVec.ofInt 8 x23 ||| BitVec.ofInt 8 128).toNat)
     let l25 : List Int := l10 ++ [x24]
     rmK l25.length 1 <|
     k0 l25.length v2 l25)
    (
     k0 l10.length v2 l10)))
  (
   let x26 : Int := Int.fdiv v2 (2 ^ 14)
   cond (!decide (x26 = 0)) (
    let x27 : Int := Int.fdiv v2 (2 ^ 14)
    let x28 : Int := IntKind.u8.wrap x27
    let x29 : Int := IntKind.u8.wrap ((BitVec.ofInt 8 x28 ||| BitVec.ofInt 8 128).toNat)
    let l30 : List Int := l5 ++ [x29]
    rmK l30.length 1 <|
    let x31 : Int := Int.fdiv v2 (2 ^ 7)
    cond (!decide (x31 = 0)) (
     let x32 : Int := Int.fdiv v2 (2 ^ 7)
     let x33 : Int := IntKind.u8.wrap x32
     let x34 : Int := IntKind.u8.wrap ((BitVec.ofInt 8 x33 ||| BitVec.ofInt 8 128).toNat)
     let l35 : List Int := l30 ++ [x34]
     rmK l35.length 1 <|
     k0 l35.length v2 l35)
    (
     k0 l30.length v2 l30))
   (
    let x36 : Int := Int.fdiv v2 (2 ^ 7)
    cond (!decide (x36 = 0)) (
     let x37 : Int := Int.fdiv v2 (2 ^ 7)
     let x38 : Int := IntKind.u8.wrap x37
     let x39 : Int := IntKind.u8.wrap ((BitVec.ofInt 8 x38 ||| BitVec.ofInt 8 128).toNat)
     let l40 : List Int := l5 ++ [x39]
     rmK l40.length 1 <|
     k0 l40.length v2 l40)
    (
     k0 l5.length v2 l5))))
 (
  let x41 : Int := Int.fdiv v2 (2 ^ 21)
  cond (!decide (x41 = 0)) (
   let x42 : Int := Int.fdiv v2 (2 ^ 21)
   let x43 : Int := IntKind.u8.wrap x42
   let x44 : Int := IntKind.u8.wrap ((BitVec.ofInt 8 x43 ||| BitVec.ofInt 8 128).toNat)
   let l45 : List Int := v3 ++ [x44]
   rmK l45.length 1 <|
   let x46 : Int := Int.fdiv v2 (2 ^ 14)
   cond (!decide (x46 = 0)) (
    let x47 : Int := Int.fdiv v2 (2 ^ 14)
    let x48 : Int := IntKind.u8.wrap x47
    let x49 : Int := IntKind.u8.wrap ((BitVec.ofInt 8 x48 ||| BitVec.ofInt 8 128).toNat)
    let l50 : List Int := l45 ++ [x49]
    rmK l50.length 1 <|
    let x51 : Int := Int.fdiv v2 (2 ^ 7)
    cond (!decide (x51 = 0)) (
     let x52 : Int := Int.fdiv v2 (2 ^ 7)
     let x53 : Int := IntKind.u8.wrap x52
     let x54 : Int := IntKind.u8.wrap ((BitVec.ofInt 8 x53 ||| BitVec.ofInt 8 128).toNat)
     let l55 : List Int := l50 ++ [x54]
     rmK l55.length 1 <|
     k0 l55.length v2 l55)
    (
     k0 l50.length v2 l50))
   (
    let x56 : Int := Int.fdiv v2 (2 ^ 7)
    cond (!decide (x56 = 0)) (
     let x57 : Int := Int.fdiv v2 (2 ^ 7)
     let x58 : Int := IntKind.u8.wrap x57
     let x59 : Int := IntKind.u8.wrap ((BitVec.ofInt 8 x58 ||| BitVec.ofInt 8 128).toNat)
     let l60 : List Int := l45 ++ [x59]
     rmK l60.length 1 <|
     k0 l60.length v2 l60)
    (
     k0 l45.length v2 l45)))
  (
   let x61 : Int := Int.fdiv v2 (2 ^ 14)
   cond (!decide (x61 = 0)) (
    let x62 : Int := Int.fdiv v2 (2 ^ 14)
    let x63 : Int := IntKind.u8.wrap x62
    let x64 : Int := IntKind.u8.wrap ((BitVec.ofInt 8 x63 ||| BitVec.ofInt 8 128).toNat)
    let l65 : List Int := v3 ++ [x64]
    rmK l65.length 1 <|
    let x66 : Int := Int.fdiv v2 (2 ^ 7)
    cond (!decide (x66 = 0)) (
     let x67 : Int := Int.fdiv v2 (2 ^ 7)
     let x68 : Int := IntKind.u8.wrap x67
     let x69 : Int := IntKind.u8.wrap ((BitVec.ofInt 8 x68 ||| BitVec.ofInt 8 128).toNat)
     let l70 : List Int := l65 ++ [x69]
     rmK l70.length 1 <|
     k0 l70.length v2 l70)
    (
     k0 l65.length v2 l65))
   (
    let x71 : Int := Int.fdiv v2 (2 ^ 7)
    cond (!decide (x71 = 0)) (
     let x72 : Int := Int.fdiv v2 (2 ^ 7)
     let x73 : Int := IntKind.u8.wrap x72
     let x74 : Int := IntKind.u8.wrap ((BitVec.ofInt 8 x73 ||| BitVec.ofInt 8 128).toNat)
     let l75 : List Int := v3 ++ [x74]
     rmK l75.length 1 <|
     k0 l75.length v2 l75)
    (
     k1 v1 v2 v3))))
noncomputable def JOPut_2 : St -> (Ex -> St -> Option Out) -> Option Out := fun σ k => match σ with
 | ⟨[(q1, .nils), (q2, .cl (.int .u32 v1)), (q3, .cl (.int .i64 q4))], []⟩ => cond (Nat.beq q1 0 && Nat.beq q2 1 && Nat.beq q3 5 && decide (q4 = 28)) (shut (jnOPut_2 (fun y1 y2 y3 y4 y5 => k .normal ⟨[(0, .ref 85 0 4 true 1), (1, .cl (.int .u32 y1))], [(85, ⟨.ints .u8 [y2, y3, y4, y5], false⟩)]⟩) (fun y1 y2 y3 y4 => k .normal ⟨[(0, .ref 85 0 3 true 1), (1, .cl (.int .u32 y1))], [(85, ⟨.ints .u8 [y2, y3, y4], false⟩)]⟩) (fun y1 y2 y3 => k .normal ⟨[(0, .ref 85 0 2 true 1), (1, .cl (.int .u32 y1))], [(85, ⟨.ints .u8 [y2, y3], false⟩)]⟩) (fun y1 y2 => k .normal ⟨[(0, .ref 85 0 1 true 1), (1, .cl (.int .u32 y1))], [(85, ⟨.ints .u8 [y2], false⟩)]⟩) (fun y1 => k .normal ⟨[(0, .nils), (1, .cl (.int .u32 y1))], []⟩)) v1) none
 | ⟨[(q1, .ref q2 q3 v1 true q4), (q5, .cl (.int .u32 v2)), (q6, .cl (.int .i64 q7))], [(q8, ⟨.ints .u8 v3, false⟩)]⟩ => cond (Nat.beq q1 0 && Nat.beq q2 0 && Nat.beq q3 0 && Nat.beq q4 1 && Nat.beq q5 1 && Nat.beq q6 5 && decide (q7 = 28) && Nat.beq q8 0) (shut (jnOPut_2_1 (fun y1 y2 y3 => k .normal ⟨[(0, .ref 85 0 y1 true 1), (1, .cl (.int .u32 y2))], [(85, ⟨.ints .u8 y3, false⟩)]⟩) (fun y1 y2 y3 => k .normal ⟨[(0, .ref 0 0 y1 true 1), (1, .cl (.int .u32 y2))], [(0, ⟨.ints .u8 y3, false⟩)]⟩)) v1 v2 v3) none
 | _ => none
noncomputable def EOPut : Env := {
 orc := fun _ => fun _ _ => Tree.fail
 pre := fun _ => fun _ _ => true
 byref := fun _ => []
 keep := fun _ => false
 live := fun r => cond (Nat.beq r 2) ([0, 1, 5]) ([])
 ren := fun _ => []
 glob := glVal
 nt := 28
 lp := fun _ => none
 xl := fun r => cond (Nat.beq r 0) (some [4]) (cond (Nat.beq r 1) (some [0, 1]) (cond (Nat.beq r 1002) (some [0, 1]) (none)))
 jn := fun r => cond (Nat.beq r 2) (some (JOPut_2)) (none)
}
noncomputable def bjnOPut_2 : Code := (Cd.snd (Cd.fst (Cd.snd (Tryd.f134.body.getD .skip))))
theorem JOPut_2_ok : JnOk Tryd.prog (EOPut) 40 bjnOPut_2 2 JOPut_2 := by
 intro σ k r h
 unfold JOPut_2 at h
 split at h
 ·replace h := cond_some h
  obtain ⟨hc, h⟩ := h
  simp only [Bool.and_eq_true, beq_prop, decide_eq_true_eq, Bool.not_eq_true'] at hc
  obtain ⟨⟨⟨rfl, rfl⟩, rfl⟩, rfl⟩ := hc
  rw [shut_eq] at h
  exact Eq.trans (by kernel_rfl) h
 ·replace h := cond_some h
  obtain ⟨hc, h⟩ := h
  simp only [Bool.and_eq_true, beq_prop, decide_eq_true_eq, Bool.not_eq_true'] at hc
  obtain ⟨⟨⟨⟨⟨⟨⟨rfl, rfl⟩, rfl⟩, rfl⟩, rfl⟩, rfl⟩, rfl⟩, rfl⟩ := hc
  rw [shut_eq] at h
  exact Eq.trans (by kernel_rfl) h
 ·cases h
theorem loopsOPut : ∀ c, Tryd.f134.body = some c -> LoopsOk Tryd.prog (EOPut) 40 c := by
 intro c hc
 cases hc
 exact ⟨trivial, ⟨⟨trivial, ⟨⟨⟨trivial, ⟨trivial, trivial, jn_none rfl⟩, jn_none rfl⟩, ⟨⟨trivial, ⟨trivial, trivial, jn_none rfl⟩, jn_none rfl⟩, trivial, jn_none rfl⟩, jn_none rfl⟩, lp_none rfl⟩, jn_some rfl (JOPut_2_ok)⟩, ⟨trivial, trivial, jn_none rfl⟩, jn_none rfl⟩, jn_none rfl⟩
noncomputable def gOPut_0 (n : Int) : Option Out :=
 shut (jnOPut_2
 (fun (y1 : Int) (y2 : Int) (y3 : Int) (y4 : Int) (y5 : Int) =>
  let x6 : Int := IntKind.u8.wrap y1
  let x7 : Int := IntKind.u8.wrap ((BitVec.ofInt 8 x6 &&& ~~~ BitVec.ofInt 8 128).toNat)
  some (.ret [.ref 0 0 5 true 1] [some ⟨.ints .u8 [y2, y3, y4, y5, x7], false⟩]))
 (fun (y8 : Int) (y9 : Int) (y10 : Int) (y11 : Int) =>
  let x12 : Int := IntKind.u8.wrap y8
  let x13 : Int := IntKind.u8.wrap ((BitVec.ofInt 8 x12 &&& ~~~ BitVec.ofInt 8 128).toNat)
  some (.ret [.ref 0 0 4 true 1] [some ⟨.ints .u8 [y9, y10, y11, x13], false⟩]))
 (fun (y14 : Int) (y15 : Int) (y16 : Int) =>
  let x17 : Int := IntKind.u8.wrap y14
  let x18 : Int := IntKind.u8.wrap ((BitVec.ofInt 8 x17 &&& ~~~ BitVec.ofInt 8 128).toNat)
  some (.ret [.ref 0 0 3 true 1] [some ⟨.ints .u8 [y15, y16, x18], false⟩]))
 (fun (y19 : Int) (y20 : Int) =>
  let x21 : Int := IntKind.u8.wrap y19
  let x22 : Int := IntKind.u8.wrap ((BitVec.ofInt 8 x21 &&& ~~~ BitVec.ofInt 8 128).toNat)
  some (.ret [.ref 0 0 2 true 1] [some ⟨.ints .u8 [y20, x22], false⟩]))
 (fun (y23 : Int) =>
  let x24 : Int := IntKind.u8.wrap y23
  let x25 : Int := IntKind.u8.wrap ((BitVec.ofInt 8 x24 &&& ~~~ BitVec.ofInt 8 128).toNat)
  some (.ret [.ref 0 0 1 true 1] [some ⟨.ints .u8 [x25], false⟩]))) n
theorem gOPut_0_eq (n : Int) : bodyK Tryd.prog (EOPut) 40 true Tryd.f134 [.nils, .cl (.int .u32 n)] [] = gOPut_0 n := by kernel_rfl
noncomputable def gOPut_1 (m : Nat) (n : Int) (l : List Int) : Option Out :=
 shut (jnOPut_2_1
 (fun (y1 : Nat) (y2 : Int) (y3 : List Int) =>
  let x4 : Int := IntKind.u8.wrap y2
  let x5 : Int := IntKind.u8.wrap ((BitVec.ofInt 8 x4 &&& ~~~ BitVec.ofInt 8 128).toNat)
  let l6 : List Int := y3 ++ [x5]
  rmK l6.length 1 <|
  some (.ret [.ref 1 0 l6.length true 1] [none, some ⟨.ints .u8 l6, false⟩]))
 (fun (y7 : Nat) (y8 : Int) (y9 : List Int) =>
  let x10 : Int := IntKind.u8.wrap y8
  let x11 : Int := IntKind.u8.wrap ((BitVec.ofInt 8 x10 &&& ~~~ BitVec.ofInt 8 128).toNat)
  let l12 : List Int := y9 ++ [x11]
  rmK l12.length 1 <|
  some (.ret [.ref 1 0 l12.length true 1] [none, some ⟨.ints .u8 l12, false⟩]))) m n l
theorem gOPut_1_eq (m : Nat) (n : Int) (l : List Int) : bodyK Tryd.prog (EOPut) 40 true Tryd.f134 [.ref 0 0 m true 1, .cl (.int .u32 n)] [⟨.ints .u8 l, false⟩] = gOPut_1 m n l := by kernel_rfl
end Go.Proofs.YtfkpjbbkdkcdcaaDoorA

namespace Go.Proofs.YtfkpjbbkdkcdcaaDoorA
noncomputable def lpR2Groups_3s (again : Int -> Nat -> (List Int) -> Option Out) (k0 : Nat -> (List Int) -> Option Out) (v1 : Int) (v2 : Nat) (v3 : List Int) : Option Out :=
 cond (decide ((0 : Int) < v1)) (
  let x4 : Int := Int.tmod v1 128
  let x5 : Int := IntKind.u32.wrap ((128 : Int) + x4)
  let x6 : Int := IntKind.u8.wrap x5
  let l7 : List Int := [x6] ++ v3
  rmK l7.length 1 <|
  let x8 : Int := IntKind.u32.wrap (Int.tdiv v1 128)
  again x8 l7.length l7)
 (
  k0 v2 v3)
noncomputable def lpR2Groups_3 (k0 : Nat -> (List Int) -> Option Out) : Nat -> Int -> Nat -> (List Int) -> Option Out := iterF (fun a => lpR2Groups_3s a k0) (fun _ _ _ => none)
noncomputable def LR2Groups_3 : St -> (Ex -> St -> Option Out) -> Option Out := fun σ k => match σ with
 | ⟨[(q1, .cl (.int .u32 v1)), (q2, .ref q3 q4 v2 true q5)], [(q6, ⟨.ints .u8 v3, false⟩)]⟩ => cond (Nat.beq q1 0 && Nat.beq q2 3 && Nat.beq q3 71 && Nat.beq q4 0 && Nat.beq q5 1 && Nat.beq q6 71) (shut (lpR2Groups_3 (fun y1 y2 => k (.exit 0) ⟨[(3, .ref 71 0 y1 true 1)], [(71, ⟨.ints .u8 y2, false⟩)]⟩) FUEL) v1 v2 v3) none
 | _ => none
noncomputable def ER2Groups : Env := {
 orc := fun _ => fun _ _ => Tree.fail
 pre := fun _ => fun _ _ => true
 byref := fun _ => []
 keep := fun _ => false
 live := fun r => cond (Nat.beq r 3) ([0, 3]) ([])
 ren := fun r => cond (Nat.beq r 3) ([(84, 71)]) ([])
 glob := glVal
 nt := 22
 lp := fun r => cond (Nat.beq r 3) (some (LR2Groups_3)) (none)
 xl := fun r => cond (Nat.beq r 0) (some [2]) (cond (Nat.beq r 1) (some [3]) (none))
}
noncomputable def blpR2Groups_3 : Code := (Cd.fst (Cd.fst (Cd.snd (Cd.fst (Cd.snd (Cd.snd (Tryd.f135.body.getD .skip)))))))
theorem LR2Groups_3_ok : LpOk Tryd.prog (ER2Groups) 40 blpR2Groups_3 3 LR2Groups_3 := by
 intro σ k r h
 unfold LR2Groups_3 at h
 split at h
 ·replace h := cond_some h
  obtain ⟨hc, h⟩ := h
  simp only [Bool.and_eq_true, beq_prop, decide_eq_true_eq, Bool.not_eq_true'] at hc
  obtain ⟨⟨⟨⟨⟨rfl, rfl⟩, rfl⟩, rfl⟩, rfl⟩, rfl⟩ := hc
  rw [shut_eq] at h
  exact ⟨FUEL, iter_ok (F := fun n v1 v2 v3 => iterK n (codeK Tryd.prog (ER2Groups) 40 blpR2Groups_3) (head (ER2Groups) 3) ⟨[(0, .cl (.int .u32 v1)), (3, .ref 71 0 v2 true 1)], [(71, ⟨.ints .u8 v3, false⟩)]⟩ k) (Q := fun f => f _ _ _ = some r) rfl (fun n => by kernel_rfl) h⟩
 ·cases h
theorem loopsR2Groups : ∀ c, Tryd.f135.body = some c -> LoopsOk Tryd.prog (ER2Groups) 40 c := by
 intro c hc
 cases hc
 exact ⟨trivial, ⟨trivial, ⟨⟨trivial, ⟨⟨⟨trivial, ⟨trivial, trivial, jn_none rfl⟩, jn_none rfl⟩, ⟨trivial, trivial, jn_none rfl⟩, jn_none rfl⟩, lp_some rfl (LR2Groups_3_ok)⟩, jn_none rfl⟩, ⟨trivial, trivial, jn_none rfl⟩, jn_none rfl⟩, jn_none rfl⟩, jn_none rfl⟩
noncomputable def gR2Groups (n : Int) : Option Out :=
 let x1 : Int := Int.tmod n 128
 let x2 : Int := IntKind.u8.wrap x1
 let x3 : Int := IntKind.u32.wrap (Int.tdiv n 128)
 shut (lpR2Groups_3
 (fun (y4 : Nat) (y5 : List Int) =>
  some (.ret [.ref 0 0 y4 true 1] [some ⟨.ints .u8 y5, false⟩]))
 FUEL) x3 1 [x2]
theorem gR2Groups_eq (n : Int) : bodyK Tryd.prog (ER2Groups) 40 true Tryd.f135 [.cl (.int .u32 n)] [] = gR2Groups n := by kernel_rfl
end Go.Proofs.YtfkpjbbkdkcdcaaDoorA

namespace Go.Proofs.YtfkpjbbkdkcdcaaDoorA
noncomputable def lpOBytes_5s (again : Nat -> (List Int) -> Int -> Int -> (List Int) -> Option Out) (k0 : Nat -> (List Int) -> Option Out) (v1 : Nat) (v2 : List Int) (v3 : Int) (v4 : Int) (v5 : List Int) : Option Out :=
 cond (decide (v4 < v3)) (
  getK v2 v4 fun e9 =>
  cond (u32Ok e9 && lenOk v5) (
  let r10 : Nat := (v5 ++ oidGroups e9).length
  let r11 : List Int := v5 ++ oidGroups e9
  let x12 : Int := IntKind.i64.wrap (v4 + 1)
  again r10 v2 v3 x12 r11) none)
 (
  k0 v1 v5)
noncomputable def lpOBytes_5 (k0 : Nat -> (List Int) -> Option Out) : Nat -> Nat -> (List Int) -> Int -> Int -> (List Int) -> Option Out := iterF (fun a => lpOBytes_5s a k0) (fun _ _ _ _ _ => none)
noncomputable def LOBytes_5 : St -> (Ex -> St -> Option Out) -> Option Out := fun σ k => match σ with
 | ⟨[(q1, .ref q2 q3 v1 true q4), (q5, .cl (.sli .u32 v2)), (q6, .cl (.int .i64 v3)), (q7, .cl (.int .i64 v4))], [(q8, ⟨.ints .u8 v5, false⟩)]⟩ => cond (Nat.beq q1 3 && Nat.beq q2 81 && Nat.beq q3 0 && Nat.beq q4 1 && Nat.beq q5 19 && Nat.beq q6 20 && Nat.beq q7 21 && Nat.beq q8 81) (shut (lpOBytes_5 (fun y1 y2 => k (.exit 0) ⟨[(3, .ref 81 0 y1 true 1)], [(81, ⟨.ints .u8 y2, false⟩)]⟩) FUEL) v1 v2 v3 v4 v5) none
 | _ => none
noncomputable def EOBytes : Env := {
 orc := fun g => cond (Nat.beq g 122) (SOFit) (cond (Nat.beq g 134) (SOPut) (fun _ _ => Tree.fail))
 pre := fun g => cond (Nat.beq g 122) (preOFit) (cond (Nat.beq g 134) (preOPut) (fun _ _ => true))
 byref := fun g => cond (Nat.beq g 134) ([0]) ([])
 keep := fun g => cond (Nat.beq g 134) (true) (false)
 live := fun r => cond (Nat.beq r 5) ([3, 19, 20, 21]) ([])
 ren := fun r => cond (Nat.beq r 5) ([(91, 81)]) ([])
 glob := glVal
 nt := 30
 lp := fun r => cond (Nat.beq r 5) (some (LOBytes_5)) (none)
 xl := fun r => cond (Nat.beq r 0) (some [2]) (cond (Nat.beq r 1) (some [3]) (none))
}
noncomputable def blpOBytes_5 : Code := (Cd.fst (Cd.fst (Cd.snd (Cd.fst (Cd.snd (Cd.snd (Cd.snd (Tryd.f106.body.getD .skip))))))))
theorem LOBytes_5_ok : LpOk Tryd.prog (EOBytes) 40 blpOBytes_5 5 LOBytes_5 := by
 intro σ k r h
 unfold LOBytes_5 at h
 split at h
 ·replace h := cond_some h
  obtain ⟨hc, h⟩ := h
  simp only [Bool.and_eq_true, beq_prop, decide_eq_true_eq, Bool.not_eq_true'] at hc
  obtain ⟨⟨⟨⟨⟨⟨⟨rfl, rfl⟩, rfl⟩, rfl⟩, rfl⟩, rfl⟩, rfl⟩, rfl⟩ := hc
  rw [shut_eq] at h
  exact ⟨FUEL, iter_ok (F := fun n v1 v2 v3 v4 v5 => iterK n (codeK Tryd.prog (EOBytes) 40 blpOBytes_5) (head (EOBytes) 5) ⟨[(3, .ref 81 0 v1 true 1), (19, .cl (.sli .u32 v2)), (20, .cl (.int .i64 v3)), (21, .cl (.int .i64 v4))], [(81, ⟨.ints .u8 v5, false⟩)]⟩ k) (Q := fun f => f _ _ _ _ _ = some r) rfl (fun n => by kernel_rfl) h⟩
 ·cases h
theorem loopsOBytes : ∀ c, Tryd.f106.body = some c -> LoopsOk Tryd.prog (EOBytes) 40 c := by
 intro c hc
 cases hc
 exact ⟨trivial, ⟨⟨trivial, ⟨⟨trivial, trivial, jn_none rfl⟩, trivial, jn_none rfl⟩, jn_none rfl⟩, ⟨trivial, ⟨⟨trivial, ⟨⟨trivial, ⟨⟨trivial, trivial, jn_none rfl⟩, ⟨⟨trivial, trivial, jn_none rfl⟩, trivial, jn_none rfl⟩, jn_none rfl⟩, jn_none rfl⟩, lp_some rfl (LOBytes_5_ok)⟩, jn_none rfl⟩, ⟨trivial, trivial, jn_none rfl⟩, jn_none rfl⟩, jn_none rfl⟩, jn_none rfl⟩, jn_none rfl⟩
noncomputable def gOBytes (o : List Int) : Option Out :=
 let r1 : Bool := oidFit o
 cond (!r1) (
  some (.ret [.cl (.sli .u8 [])] []))
 (
  cond (decide ((0 : Int) < ((o.length : Nat) : Int))) (
  Option.bind (o[0]?) fun (e2 : Int) =>
  let x3 : Int := IntKind.u32.wrap ((40 : Int) * e2)
  cond (decide ((1 : Int) < ((o.length : Nat) : Int))) (
  Option.bind (o[1]?) fun (e4 : Int) =>
  let x5 : Int := IntKind.u32.wrap (x3 + e4)
  cond (u32Ok x5) (
  let r6 : Nat := (oidGroups x5).length
  let r7 : List Int := oidGroups x5
  cond (decide ((2 : Int) <= ((o.length : Nat) : Int))) (
  let l8 : List Int := List.drop 2 o
  shut (lpOBytes_5
  (fun (y9 : Nat) (y10 : List Int) =>
   some (.ret [.cl (.sli .u8 y10)] []))
  FUEL) r6 l8 ((l8.length : Nat) : Int) 0 r7) none) none) none) none)
theorem gOBytes_eq (o : List Int) : bodyK Tryd.prog (EOBytes) 40 false Tryd.f106 [.cl (.sli .u32 o)] [] = gOBytes o := by kernel_rfl
end Go.Proofs.YtfkpjbbkdkcdcaaDoorA

namespace Go.Proofs.YtfkpjbbkdkcdcaaDoorA
noncomputable def lpR2Bytes_5s (again : (List Int) -> Nat -> Int -> (List Int) -> Option Out) (k0 : Nat -> (List Int) -> Option Out) (v1 : List Int) (v2 : Nat) (v3 : Int) (v4 : List Int) : Option Out :=
 cond (decide (v3 < ((v1.length : Nat) : Int))) (
  getK v1 v3 fun e8 =>
  cond (u32Ok e8) (
  let r10 : List Int := oidGroups e8
  let l11 : List Int := v4 ++ r10
  rmK l11.length 1 <|
  let x12 : Int := IntKind.i64.wrap (v3 + 1)
  again v1 l11.length x12 l11) none)
 (
  k0 v2 v4)
noncomputable def lpR2Bytes_5 (k0 : Nat -> (List Int) -> Option Out) : Nat -> (List Int) -> Nat -> Int -> (List Int) -> Option Out := iterF (fun a => lpR2Bytes_5s a k0) (fun _ _ _ _ => none)
noncomputable def LR2Bytes_5 : St -> (Ex -> St -> Option Out) -> Option Out := fun σ k => match σ with
 | ⟨[(q1, .cl (.sli .u32 v1)), (q2, .ref q3 q4 v2 true q5), (q6, .cl (.int .i64 v3))], [(q7, ⟨.ints .u8 v4, false⟩)]⟩ => cond (Nat.beq q1 0 && Nat.beq q2 3 && Nat.beq q3 80 && Nat.beq q4 0 && Nat.beq q5 1 && Nat.beq q6 4 && Nat.beq q7 80) (shut (lpR2Bytes_5 (fun y1 y2 => k (.exit 0) ⟨[(3, .ref 80 0 y1 true 1)], [(80, ⟨.ints .u8 y2, false⟩)]⟩) FUEL) v1 v2 v3 v4) none
 | _ => none
noncomputable def ER2Bytes : Env := {
 orc := fun g => cond (Nat.beq g 124) (SR2Fit) (cond (Nat.beq g 135) (SR2Groups) (fun _ _ => Tree.fail))
 pre := fun g => cond (Nat.beq g 124) (preR2Fit) (cond (Nat.beq g 135) (preR2Groups) (fun _ _ => true))
 byref := fun _ => []
 keep := fun g => cond (Nat.beq g 135) (true) (false)
 live := fun r => cond (Nat.beq r 5) ([0, 3, 4]) ([])
 ren := fun r => cond (Nat.beq r 5) ([(93, 80)]) ([])
 glob := glVal
 nt := 31
 lp := fun r => cond (Nat.beq r 5) (some (LR2Bytes_5)) (none)
 xl := fun r => cond (Nat.beq r 0) (some [2]) (cond (Nat.beq r 1) (some [3]) (none))
}
noncomputable def blpR2Bytes_5 : Code := (Cd.fst (Cd.fst (Cd.snd (Cd.fst (Cd.snd (Cd.snd (Cd.snd (Tryd.f107.body.getD .skip))))))))
theorem LR2Bytes_5_ok : LpOk Tryd.prog (ER2Bytes) 40 blpR2Bytes_5 5 LR2Bytes_5 := by
 intro σ k r h
 unfold LR2Bytes_5 at h
 split at h
 ·replace h := cond_some h
  obtain ⟨hc, h⟩ := h
  simp only [Bool.and_eq_true, beq_prop, decide_eq_true_eq, Bool.not_eq_true'] at hc
  obtain ⟨⟨⟨⟨⟨⟨rfl, rfl⟩, rfl⟩, rfl⟩, rfl⟩, rfl⟩, rfl⟩ := hc
  rw [shut_eq] at h
  exact ⟨FUEL, iter_ok (F := fun n v1 v2 v3 v4 => iterK n (codeK Tryd.prog (ER2Bytes) 40 blpR2Bytes_5) (head (ER2Bytes) 5) ⟨[(0, .cl (.sli .u32 v1)), (3, .ref 80 0 v2 true 1), (4, .cl (.int .i64 v3))], [(80, ⟨.ints .u8 v4, false⟩)]⟩ k) (Q := fun f => f _ _ _ _ = some r) rfl (fun n => by kernel_rfl) h⟩
 ·cases h
theorem loopsR2Bytes : ∀ c, Tryd.f107.body = some c -> LoopsOk Tryd.prog (ER2Bytes) 40 c := by
 intro c hc
 cases hc
 exact ⟨trivial, ⟨⟨trivial, ⟨⟨trivial, trivial, jn_none rfl⟩, trivial, jn_none rfl⟩, jn_none rfl⟩, ⟨trivial, ⟨⟨trivial, ⟨⟨⟨trivial, ⟨trivial, trivial, jn_none rfl⟩, jn_none rfl⟩, ⟨trivial, trivial, jn_none rfl⟩, jn_none rfl⟩, lp_some rfl (LR2Bytes_5_ok)⟩, jn_none rfl⟩, ⟨trivial, trivial, jn_none rfl⟩, jn_none rfl⟩, jn_none rfl⟩, jn_none rfl⟩, jn_none rfl⟩
noncomputable def gR2Bytes (o : List Int) : Option Out :=
 let r1 : Bool := oidFit o
 cond (!r1) (
  some (.ret [.cl (.sli .u8 [])] []))
 (
  cond (decide ((0 : Int) < ((o.length : Nat) : Int))) (
  Option.bind (o[0]?) fun (e2 : Int) =>
  let x3 : Int := IntKind.u32.wrap ((40 : Int) * e2)
  cond (decide ((1 : Int) < ((o.length : Nat) : Int))) (
  Option.bind (o[1]?) fun (e4 : Int) =>
  let x5 : Int := IntKind.u32.wrap (x3 + e4)
  cond (u32Ok x5) (
  let r6 : Nat := (oidGroups x5).length
  let r7 : List Int := oidGroups x5
  shut (lpR2Bytes_5
  (fun (y8 : Nat) (y9 : List Int) =>
   some (.ret [.cl (.sli .u8 y9)] []))
  FUEL) o r6 2 r7) none) none) none)
theorem gR2Bytes_eq (o : List Int) : bodyK Tryd.prog (ER2Bytes) 40 false Tryd.f107 [.cl (.sli .u32 o)] [] = gR2Bytes o := by kernel_rfl
end Go.Proofs.YtfkpjbbkdkcdcaaDoorA

namespace Go.Proofs.YtfkpjbbkdkcdcaaDoorA
noncomputable def lpVBNum_3s (again : Int -> (List Int) -> Int -> Int -> Option Out) (k0 : Int -> Option Out) (v1 : Int) (v2 : List Int) (v3 : Int) (v4 : Int) : Option Out :=
 cond (decide (v4 < v3)) (
  getK v2 v4 fun e1 =>
  let x2 : Int := IntKind.u64.wrap (v1 * 2 ^ 8)
  let x3 : Int := IntKind.u64.wrap e1
  let x4 : Int := IntKind.u64.wrap ((BitVec.ofInt 64 x2 ||| BitVec.ofInt 64 x3).toNat)
  let x5 : Int := IntKind.i64.wrap (v4 + 1)
  again x4 v2 v3 x5)
 (
  k0 v1)
noncomputable def lpVBNum_3 (k0 : Int -> Option Out) : Nat -> Int -> (List Int) -> Int -> Int -> Option Out := iterF (fun a => lpVBNum_3s a k0) (fun _ _ _ _ => none)
noncomputable def LVBNum_3 : St -> (Ex -> St -> Option Out) -> Option Out := fun σ k => match σ with
 | ⟨[(q1, .cl (.int .u64 v1)), (q2, .cl (.sli .u8 v2)), (q3, .cl (.int .i64 v3)), (q4, .cl (.int .i64 v4))], []⟩ => cond (Nat.beq q1 3 && Nat.beq q2 6 && Nat.beq q3 7 && Nat.beq q4 8) (shut (lpVBNum_3 (fun y1 => k (.exit 0) ⟨[(3, .cl (.int .u64 y1))], []⟩) FUEL) v1 v2 v3 v4) none
 | _ => none
noncomputable def EVBNum : Env := {
 orc := fun _ => fun _ _ => Tree.fail
 pre := fun _ => fun _ _ => true
 byref := fun _ => []
 keep := fun _ => false
 live := fun r => cond (Nat.beq r 3) ([3, 6, 7, 8]) ([])
 ren := fun _ => []
 glob := glVal
 nt := 19
 lp := fun r => cond (Nat.beq r 3) (some (LVBNum_3)) (none)
 xl := fun r => cond (Nat.beq r 0) (some [2]) (cond (Nat.beq r 1) (some [3]) (none))
}
noncomputable def blpVBNum_3 : Code := (Cd.fst (Cd.fst (Cd.snd (Cd.fst (Cd.snd (Cd.snd (Tryd.f120.body.getD .skip)))))))
theorem LVBNum_3_ok : LpOk Tryd.prog (EVBNum) 40 blpVBNum_3 3 LVBNum_3 := by
 intro σ k r h
 unfold LVBNum_3 at h
 split at h
 ·replace h := cond_some h
  obtain ⟨hc, h⟩ := h
  simp only [Bool.and_eq_true, beq_prop, decide_eq_true_eq, Bool.not_eq_true'] at hc
  obtain ⟨⟨⟨rfl, rfl⟩, rfl⟩, rfl⟩ := hc
  rw [shut_eq] at h
  exact ⟨FUEL, iter_ok (F := fun n v1 v2 v3 v4 => iterK n (codeK Tryd.prog (EVBNum) 40 blpVBNum_3) (head (EVBNum) 3) ⟨[(3, .cl (.int .u64 v1)), (6, .cl (.sli .u8 v2)), (7, .cl (.int .i64 v3)), (8, .cl (.int .i64 v4))], []⟩ k) (Q := fun f => f _ _ _ _ = some r) rfl (fun n => by kernel_rfl) h⟩
 ·cases h
theorem loopsVBNum : ∀ c, Tryd.f120.body = some c -> LoopsOk Tryd.prog (EVBNum) 40 c := by
 intro c hc
 cases hc
 exact ⟨trivial, ⟨trivial, ⟨⟨trivial, ⟨⟨trivial, ⟨⟨trivial, trivial, jn_none rfl⟩, ⟨⟨trivial, trivial, jn_none rfl⟩, trivial, jn_none rfl⟩, jn_none rfl⟩, jn_none rfl⟩, lp_some rfl (LVBNum_3_ok)⟩, jn_none rfl⟩, ⟨trivial, trivial, jn_none rfl⟩, jn_none rfl⟩, jn_none rfl⟩, jn_none rfl⟩
noncomputable def gVBNum (b : List Int) : Option Out :=
 shut (lpVBNum_3
 (fun (y1 : Int) =>
  some (.ret [.cl (.int .u64 y1)] []))
 FUEL) 0 b ((b.length : Nat) : Int) 0
theorem gVBNum_eq (b : List Int) : bodyK Tryd.prog (EVBNum) 40 false Tryd.f120 [.cl (.sli .u8 b)] [] = gVBNum b := by kernel_rfl
end Go.Proofs.YtfkpjbbkdkcdcaaDoorA

namespace Go.Proofs.YtfkpjbbkdkcdcaaDoorA
noncomputable def EVLe : Env := {
 orc := fun _ => fun _ _ => Tree.fail
 pre := fun _ => fun _ _ => true
 byref := fun _ => []
 keep := fun _ => false
 live := fun r => cond (Nat.beq r 5) ([0, 5, 16, 17]) ([])
 ren := fun _ => []
 glob := glVal
 nt := 30
 lp := fun _ => none
 xl := fun r => cond (Nat.beq r 0) (some [4]) (cond (Nat.beq r 1) (some [5]) (none))
}
theorem loopsVLe : ∀ c, Tryd.f117.body = some c -> LoopsOk Tryd.prog (EVLe) 40 c := by
 intro c hc
 cases hc
 exact ⟨trivial, ⟨⟨trivial, ⟨⟨trivial, trivial, jn_none rfl⟩, trivial, jn_none rfl⟩, jn_none rfl⟩, ⟨trivial, ⟨⟨trivial, ⟨⟨trivial, ⟨⟨trivial, trivial, jn_none rfl⟩, ⟨⟨trivial, trivial, jn_none rfl⟩, trivial, jn_none rfl⟩, jn_none rfl⟩, jn_none rfl⟩, lp_none rfl⟩, jn_none rfl⟩, ⟨trivial, trivial, jn_none rfl⟩, jn_none rfl⟩, jn_none rfl⟩, jn_none rfl⟩, jn_none rfl⟩
noncomputable def gVLe (n : Int) : Option Out :=
 let x1 : Int := Int.fdiv n (2 ^ 0)
 let x2 : Int := IntKind.u8.wrap x1
 let x3 : Int := Int.fdiv n (2 ^ 8)
 let x4 : Int := IntKind.u8.wrap x3
 let x5 : Int := Int.fdiv n (2 ^ 16)
 let x6 : Int := IntKind.u8.wrap x5
 let x7 : Int := Int.fdiv n (2 ^ 24)
 let x8 : Int := IntKind.u8.wrap x7
 let x9 : Int := Int.fdiv n (2 ^ 32)
 let x10 : Int := IntKind.u8.wrap x9
 let x11 : Int := Int.fdiv n (2 ^ 40)
 let x12 : Int := IntKind.u8.wrap x11
 let x13 : Int := Int.fdiv n (2 ^ 48)
 let x14 : Int := IntKind.u8.wrap x13
 let x15 : Int := Int.fdiv n (2 ^ 56)
 let x16 : Int := IntKind.u8.wrap x15
 some (.ret [.ref 0 0 8 true 1] [some ⟨.ints .u8 [x2, x4, x6, x8, x10, x12, x14, x16], false⟩])
theorem gVLe_eq (n : Int) : bodyK Tryd.prog (EVLe) 40 true Tryd.f117 [.cl (.int .u64 n), .cl (.int .i64 8)] [] = gVLe n := by kernel_rfl
end Go.Proofs.YtfkpjbbkdkcdcaaDoorA

namespace Go.Proofs.YtfkpjbbkdkcdcaaDoorA
noncomputable def EVReverse : Env := {
 orc := fun _ => fun _ _ => Tree.fail
 pre := fun _ => fun _ _ => true
 byref := fun _ => []
 keep := fun _ => false
 live := fun r => cond (Nat.beq r 1) ([0, 2, 3]) ([])
 ren := fun _ => []
 glob := glVal
 nt := 28
 lp := fun _ => none
 xl := fun r => cond (Nat.beq r 0) (some []) (cond (Nat.beq r 1) (some []) (none))
}
theorem loopsVReverse : ∀ c, Tryd.f118.body = some c -> LoopsOk Tryd.prog (EVReverse) 40 c := by
 intro c hc
 cases hc
 exact ⟨trivial, ⟨⟨⟨trivial, ⟨trivial, trivial, jn_none rfl⟩, jn_none rfl⟩, ⟨trivial, trivial, jn_none rfl⟩, jn_none rfl⟩, lp_none rfl⟩, jn_none rfl⟩
noncomputable def gVReverse (l : List Int) : Option Out :=
 Option.bind (l[7]?) fun (e1 : Int) =>
 Option.bind (l[0]?) fun (e2 : Int) =>
 let l3 : List Int := l.set 0 e1
 let l4 : List Int := l3.set 7 e2
 Option.bind (l4[6]?) fun (e5 : Int) =>
 Option.bind (l4[1]?) fun (e6 : Int) =>
 let l7 : List Int := l4.set 1 e5
 let l8 : List Int := l7.set 6 e6
 Option.bind (l8[5]?) fun (e9 : Int) =>
 Option.bind (l8[2]?) fun (e10 : Int) =>
 let l11 : List Int := l8.set 2 e9
 let l12 : List Int := l11.set 5 e10
 Option.bind (l12[4]?) fun (e13 : Int) =>
 Option.bind (l12[3]?) fun (e14 : Int) =>
 let l15 : List Int := l12.set 3 e13
 let l16 : List Int := l15.set 4 e14
 some (.ret [] [some ⟨.ints .u8 l16, false⟩])
theorem gVReverse_eq (l : List Int) : bodyK Tryd.prog (EVReverse) 40 false Tryd.f118 [.ref 0 0 8 true 1] [⟨.ints .u8 l, false⟩] = gVReverse l := by kernel_rfl
end Go.Proofs.YtfkpjbbkdkcdcaaDoorA

namespace Go.Proofs.YtfkpjbbkdkcdcaaDoorA
noncomputable def EVBe : Env := {
 orc := fun g => cond (Nat.beq g 117) (SVLe) (cond (Nat.beq g 118) (SVReverse) (fun _ _ => Tree.fail))
 pre := fun g => cond (Nat.beq g 117) (preVLe) (cond (Nat.beq g 118) (preVReverse) (fun _ _ => true))
 byref := fun g => cond (Nat.beq g 118) ([0]) ([])
 keep := fun g => cond (Nat.beq g 117) (true) (false)
 live := fun _ => []
 ren := fun _ => []
 glob := glVal
 nt := 12
 lp := fun _ => none
 xl := fun r => cond (Nat.beq r 0) (some [4]) (none)
}
theorem loopsVBe : ∀ c, Tryd.f73.body = some c -> LoopsOk Tryd.prog (EVBe) 40 c := by
 intro c hc
 cases hc
 exact ⟨trivial, ⟨trivial, ⟨trivial, ⟨trivial, trivial, jn_none rfl⟩, jn_none rfl⟩, jn_none rfl⟩, jn_none rfl⟩
noncomputable def gVBe (n : Int) : Option Out :=
 cond (u64Ok n) (
 let r1 : List Int := vLe n
 cond (revOk r1) (
 let r2 : List Int := vRev r1
 some (.ret [.cl (.sli .u8 r2)] [])) none) none
theorem gVBe_eq (n : Int) : bodyK Tryd.prog (EVBe) 40 false Tryd.f73 [.cl (.int .u64 n), .cl (.int .i64 8)] [] = gVBe n := by kernel_rfl
end Go.Proofs.YtfkpjbbkdkcdcaaDoorA

namespace Go.Proofs.YtfkpjbbkdkcdcaaDoorA
noncomputable def EVR1Be : Env := {
 orc := fun _ => fun _ _ => Tree.fail
 pre := fun _ => fun _ _ => true
 byref := fun _ => []
 keep := fun _ => false
 live := fun r => cond (Nat.beq r 5) ([0, 5, 6]) ([])
 ren := fun _ => []
 glob := glVal
 nt := 30
 lp := fun _ => none
 xl := fun r => cond (Nat.beq r 0) (some [4]) (cond (Nat.beq r 1) (some [5]) (none))
}
theorem loopsVR1Be : ∀ c, Tryd.f110.body = some c -> LoopsOk Tryd.prog (EVR1Be) 40 c := by
 intro c hc
 cases hc
 exact ⟨trivial, ⟨⟨trivial, ⟨⟨trivial, trivial, jn_none rfl⟩, trivial, jn_none rfl⟩, jn_none rfl⟩, ⟨trivial, ⟨⟨trivial, ⟨⟨⟨trivial, ⟨trivial, trivial, jn_none rfl⟩, jn_none rfl⟩, ⟨⟨trivial, trivial, jn_none rfl⟩, trivial, jn_none rfl⟩, jn_none rfl⟩, lp_none rfl⟩, jn_none rfl⟩, ⟨trivial, trivial, jn_none rfl⟩, jn_none rfl⟩, jn_none rfl⟩, jn_none rfl⟩, jn_none rfl⟩
noncomputable def gVR1Be (n : Int) : Option Out :=
 let x1 : Int := IntKind.u64.wrap ((BitVec.ofInt 64 n &&& BitVec.ofInt 64 255).toNat)
 let x2 : Int := IntKind.u8.wrap x1
 let x3 : Int := Int.fdiv n (2 ^ 8)
 let x4 : Int := IntKind.u64.wrap ((BitVec.ofInt 64 x3 &&& BitVec.ofInt 64 255).toNat)
 let x5 : Int := IntKind.u8.wrap x4
 let x6 : Int := Int.fdiv x3 (2 ^ 8)
 let x7 : Int := IntKind.u64.wrap ((BitVec.ofInt 64 x6 &&& BitVec.ofInt 64 255).toNat)
 let x8 : Int := IntKind.u8.wrap x7
 let x9 : Int := Int.fdiv x6 (2 ^ 8)
 let x10 : Int := IntKind.u64.wrap ((BitVec.ofInt 64 x9 &&& BitVec.ofInt 64 255).toNat)
 let x11 : Int := IntKind.u8.wrap x10
 let x12 : Int := Int.fdiv x9 (2 ^ 8)
 let x13 : Int := IntKind.u64.wrap ((BitVec.ofInt 64 x12 &&& BitVec.ofInt 64 255).toNat)
 let x14 : Int := IntKind.u8.wrap x13
 let x15 : Int := Int.fdiv x12 (2 ^ 8)
 let x16 : Int := IntKind.u64.wrap ((BitVec.ofInt 64 x15 &&& BitVec.ofInt 64 255).toNat)
 let x17 : Int := IntKind.u8.wrap x16
 let x18 : Int := Int.fdiv x15 (2 ^ 8)
 let x19 : Int := IntKind.u64.wrap ((BitVec.ofInt 64 x18 &&& BitVec.ofInt 64 255).toNat)
 let x20 : Int := IntKind.u8.wrap x19
 let x21 : Int := Int.fdiv x18 (2 ^ 8)
 let x22 : Int := IntKind.u64.wrap ((BitVec.ofInt 64 x21 &&& BitVec.ofInt 64 255).toNat)
 let x23 : Int := IntKind.u8.wrap x22
 some (.ret [.cl (.sli .u8 [x23, x20, x17, x14, x11, x8, x5, x2])] [])
theorem gVR1Be_eq (n : Int) : bodyK Tryd.prog (EVR1Be) 40 false Tryd.f110 [.cl (.int .u64 n), .cl (.int .i64 8)] [] = gVR1Be n := by kernel_rfl
end Go.Proofs.YtfkpjbbkdkcdcaaDoorA

namespace Go.Proofs.YtfkpjbbkdkcdcaaDoorA
noncomputable def lpVInt_2s (again : (List Int) -> Option Out) (k0 : (List Int) -> Option Out) (v1 : List Int) : Option Out :=
 cond (decide ((1 : Int) < ((v1.length : Nat) : Int))) (
  cond (decide ((0 : Int) < ((v1.length : Nat) : Int))) (
  Option.bind (v1[0]?) fun (e3 : Int) =>
  cond (decide (e3 = 0)) (
   cond (decide ((1 : Int) < ((v1.length : Nat) : Int))) (
   Option.bind (v1[1]?) fun (e4 : Int) =>
   cond (decide (e4 < 128)) (
    cond (decide ((1 : Int) <= ((v1.length : Nat) : Int))) (
    let l5 : List Int := List.drop 1 v1
    again l5) none)
   (
    cond (decide ((0 : Int) < ((v1.length : Nat) : Int))) (
    Option.bind (v1[0]?) fun (e6 : Int) =>
    cond (decide (e6 = 255)) (
     cond (decide ((1 : Int) < ((v1.length : Nat) : Int))) (
     Option.bind (v1[1]?) fun (e7 : Int) =>
     cond (decide ((128 : Int) <= e7)) (
      cond (decide ((1 : Int) <= ((v1.length : Nat) : Int))) (
      let l8 : List Int := List.drop 1 v1
      again l8) none)
     (
      k0 v1)) none)
    (
     k0 v1)) none)) none)
  (
   cond (decide ((0 : Int) < ((v1.length : Nat) : Int))) (
   Option.bind (v1[0]?) fun (e9 : Int) =>
   cond (decide (e9 = 255)) (
    cond (decide ((1 : Int) < ((v1.length : Nat) : Int))) (
    Option.bind (v1[1]?) fun (e10 : Int) =>
    cond (decide ((128 : Int) <= e10)) (
     cond (decide ((1 : Int) <= ((v1.length : Nat) : Int))) (
     let l11 : List Int := List.drop 1 v1
     again l11) none)
    (
     k0 v1)) none)
   (
    k0 v1)) none)) none)
 (
  k0 v1)
noncomputable def lpVInt_2 (k0 : (List Int) -> Option Out) : Nat -> (List Int) -> Option Out := iterF (fun a => lpVInt_2s a k0) (fun _ => none)
noncomputable def LVInt_2 : St -> (Ex -> St -> Option Out) -> Option Out := fun σ k => match σ with
 | ⟨[(q1, .ptr q2 q3 q4), (q5, .cl (.sli .u8 v1))], [(q6, ⟨.var [.cl (.int .i64 q7), .nils, .nils], false⟩)]⟩ => cond (Nat.beq q1 2 && Nat.beq q2 66 && Nat.beq q3 0 && Nat.beq q4 0 && Nat.beq q5 3 && Nat.beq q6 66 && decide (q7 = 0)) (shut (lpVInt_2 (fun y1 => k (.exit 0) ⟨[(2, .ptr 66 0 0), (3, .cl (.sli .u8 y1))], [(66, ⟨.var [.cl (.int .i64 0), .nils, .nils], false⟩)]⟩) FUEL) v1) none
 | _ => none
noncomputable def EVInt : Env := {
 orc := fun g => cond (Nat.beq g 73) (SVBe) (fun _ _ => Tree.fail)
 pre := fun g => cond (Nat.beq g 73) (preVBe) (fun _ _ => true)
 byref := fun _ => []
 keep := fun _ => false
 live := fun r => cond (Nat.beq r 2) ([2, 3]) ([])
 ren := fun _ => []
 glob := glVal
 nt := 38
 lp := fun r => cond (Nat.beq r 2) (some (LVInt_2)) (none)
 xl := fun r => cond (Nat.beq r 0) (some [2]) (cond (Nat.beq r 1) (some [2, 3]) (none))
}
noncomputable def blpVInt_2 : Code := (Cd.fst (Cd.fst (Cd.fst (Cd.snd (Cd.snd (Tryd.f14.body.getD .skip))))))
theorem LVInt_2_ok : LpOk Tryd.prog (EVInt) 40 blpVInt_2 2 LVInt_2 := by
 intro σ k r h
 unfold LVInt_2 at h
 split at h
 ·replace h := cond_some h
  obtain ⟨hc, h⟩ := h
  simp only [Bool.and_eq_true, beq_prop, decide_eq_true_eq, Bool.not_eq_true'] at hc
  obtain ⟨⟨⟨⟨⟨⟨rfl, rfl⟩, rfl⟩, rfl⟩, rfl⟩, rfl⟩, rfl⟩ := hc
  rw [shut_eq] at h
  exact ⟨FUEL, iter_ok (F := fun n v1 => iterK n (codeK Tryd.prog (EVInt) 40 blpVInt_2) (head (EVInt) 2) ⟨[(2, .ptr 66 0 0), (3, .cl (.sli .u8 v1))], [(66, ⟨.var [.cl (.int .i64 0), .nils, .nils], false⟩)]⟩ k) (Q := fun f => f _ = some r) rfl (fun n => by kernel_rfl) h⟩
 ·cases h
theorem loopsVInt : ∀ c, Tryd.f14.body = some c -> LoopsOk Tryd.prog (EVInt) 40 c := by
 intro c hc
 cases hc
 exact ⟨trivial, ⟨trivial, ⟨⟨⟨⟨trivial, ⟨trivial, trivial, jn_none rfl⟩, jn_none rfl⟩, trivial, jn_none rfl⟩, lp_some rfl (LVInt_2_ok)⟩, ⟨trivial, trivial, jn_none rfl⟩, jn_none rfl⟩, jn_none rfl⟩, jn_none rfl⟩
noncomputable def gVInt (n : Int) : Option Out :=
 let x1 : Int := IntKind.u64.wrap n
 cond (u64Ok x1) (
 let r2 : List Int := vBe x1
 shut (lpVInt_2
 (fun (y3 : List Int) =>
  some (.ret [.cl (.agg [.int .i64 2, .sli .u8 y3, .slg 3 []])] []))
 FUEL) r2) none
theorem gVInt_eq (n : Int) : bodyK Tryd.prog (EVInt) 40 false Tryd.f14 [.cl (.int .i64 n)] [] = gVInt n := by kernel_rfl
end Go.Proofs.YtfkpjbbkdkcdcaaDoorA

namespace Go.Proofs.YtfkpjbbkdkcdcaaDoorA
noncomputable def lpVRInt_2s (again : (List Int) -> Option Out) (k0 : (List Int) -> Option Out) (v1 : List Int) : Option Out :=
 cond (decide ((1 : Int) < ((v1.length : Nat) : Int))) (
  cond (bytesOk v1) (
  let r3 : Bool := derFits 2 v1
  cond (!r3) (
   cond (decide ((1 : Int) <= ((v1.length : Nat) : Int))) (
   let l4 : List Int := List.drop 1 v1
   again l4) none)
  (
   k0 v1)) none)
 (
  k0 v1)
noncomputable def lpVRInt_2 (k0 : (List Int) -> Option Out) : Nat -> (List Int) -> Option Out := iterF (fun a => lpVRInt_2s a k0) (fun _ => none)
noncomputable def LVRInt_2 : St -> (Ex -> St -> Option Out) -> Option Out := fun σ k => match σ with
 | ⟨[(q1, .ptr q2 q3 q4), (q5, .cl (.sli .u8 v1))], [(q6, ⟨.var [.cl (.int .i64 q7), .nils, .nils], false⟩)]⟩ => cond (Nat.beq q1 2 && Nat.beq q2 66 && Nat.beq q3 0 && Nat.beq q4 0 && Nat.beq q5 3 && Nat.beq q6 66 && decide (q7 = 0)) (shut (lpVRInt_2 (fun y1 => k (.exit 0) ⟨[(2, .ptr 66 0 0), (3, .cl (.sli .u8 y1))], [(66, ⟨.var [.cl (.int .i64 0), .nils, .nils], false⟩)]⟩) FUEL) v1) none
 | _ => none
noncomputable def EVRInt : Env := {
 orc := fun g => cond (Nat.beq g 110) (SVR1Be) (cond (Nat.beq g 111) (SRFits) (fun _ _ => Tree.fail))
 pre := fun g => cond (Nat.beq g 110) (preVR1Be) (cond (Nat.beq g 111) (preRFits) (fun _ _ => true))
 byref := fun _ => []
 keep := fun _ => false
 live := fun r => cond (Nat.beq r 2) ([2, 3]) ([])
 ren := fun _ => []
 glob := glVal
 nt := 19
 lp := fun r => cond (Nat.beq r 2) (some (LVRInt_2)) (none)
 xl := fun r => cond (Nat.beq r 0) (some [2]) (cond (Nat.beq r 1) (some [2, 3]) (none))
}
noncomputable def blpVRInt_2 : Code := (Cd.fst (Cd.fst (Cd.fst (Cd.snd (Cd.snd (Tryd.f63.body.getD .skip))))))
theorem LVRInt_2_ok : LpOk Tryd.prog (EVRInt) 40 blpVRInt_2 2 LVRInt_2 := by
 intro σ k r h
 unfold LVRInt_2 at h
 split at h
 ·replace h := cond_some h
  obtain ⟨hc, h⟩ := h
  simp only [Bool.and_eq_true, beq_prop, decide_eq_true_eq, Bool.not_eq_true'] at hc
  obtain ⟨⟨⟨⟨⟨⟨rfl, rfl⟩, rfl⟩, rfl⟩, rfl⟩, rfl⟩, rfl⟩ := hc
  rw [shut_eq] at h
  exact ⟨FUEL, iter_ok (F := fun n v1 => iterK n (codeK Tryd.prog (EVRInt) 40 blpVRInt_2) (head (EVRInt) 2) ⟨[(2, .ptr 66 0 0), (3, .cl (.sli .u8 v1))], [(66, ⟨.var [.cl (.int .i64 0), .nils, .nils], false⟩)]⟩ k) (Q := fun f => f _ = some r) rfl (fun n => by kernel_rfl) h⟩
 ·cases h
theorem loopsVRInt : ∀ c, Tryd.f63.body = some c -> LoopsOk Tryd.prog (EVRInt) 40 c := by
 intro c hc
 cases hc
 exact ⟨trivial, ⟨trivial, ⟨⟨⟨⟨trivial, ⟨trivial, trivial, jn_none rfl⟩, jn_none rfl⟩, trivial, jn_none rfl⟩, lp_some rfl (LVRInt_2_ok)⟩, ⟨trivial, trivial, jn_none rfl⟩, jn_none rfl⟩, jn_none rfl⟩, jn_none rfl⟩
noncomputable def gVRInt (n : Int) : Option Out :=
 let x1 : Int := IntKind.u64.wrap n
 cond (u64Ok x1) (
 let r2 : List Int := vBe x1
 shut (lpVRInt_2
 (fun (y3 : List Int) =>
  some (.ret [.cl (.agg [.int .i64 2, .sli .u8 y3, .slg 3 []])] []))
 FUEL) r2) none
theorem gVRInt_eq (n : Int) : bodyK Tryd.prog (EVRInt) 40 false Tryd.f63 [.cl (.int .i64 n)] [] = gVRInt n := by kernel_rfl
end Go.Proofs.YtfkpjbbkdkcdcaaDoorA

namespace Go.Proofs.YtfkpjbbkdkcdcaaDoorA
noncomputable def EVNull : Env := {
 orc := fun _ => fun _ _ => Tree.fail
 pre := fun _ => fun _ _ => true
 byref := fun _ => []
 keep := fun _ => false
 live := fun _ => []
 ren := fun _ => []
 glob := glVal
 nt := 2
 lp := fun _ => none
 xl := fun r => cond (Nat.beq r 0) (some [0]) (none)
}
theorem loopsVNull : ∀ c, Tryd.f66.body = some c -> LoopsOk Tryd.prog (EVNull) 40 c := by
 intro c hc
 cases hc
 exact ⟨trivial, ⟨trivial, trivial, jn_none rfl⟩, jn_none rfl⟩
noncomputable def gVNull  : Option Out :=
 some (.ret [.cl (.agg [.int .i64 5, .sli .u8 [], .slg 3 []])] [])
theorem gVNull_eq  : bodyK Tryd.prog (EVNull) 40 false Tryd.f66 [] [] = gVNull  := by kernel_rfl
end Go.Proofs.YtfkpjbbkdkcdcaaDoorA

namespace Go.Proofs.YtfkpjbbkdkcdcaaDoorA
end Go.Proofs.YtfkpjbbkdkcdcaaDoorA

namespace Go.Proofs.YtfkpjbbkdkcdcaaDoorA
noncomputable def EVNumber : Env := {
 orc := fun g => cond (Nat.beq g 120) (SVBNum) (fun _ _ => Tree.fail)
 pre := fun g => cond (Nat.beq g 120) (preVBNum) (fun _ _ => true)
 byref := fun _ => []
 keep := fun _ => false
 live := fun _ => []
 ren := fun _ => []
 glob := glVal
 nt := 19
 lp := fun _ => none
 xl := fun r => cond (Nat.beq r 0) (some [2, 3]) (none)
}
theorem loopsVNumber : ∀ c, Tryd.f75.body = some c -> LoopsOk Tryd.prog (EVNumber) 40 c := by
 intro c hc
 cases hc
 exact ⟨trivial, ⟨⟨trivial, ⟨⟨trivial, trivial, jn_none rfl⟩, trivial, jn_none rfl⟩, jn_none rfl⟩, ⟨trivial, ⟨trivial, trivial, jn_none rfl⟩, jn_none rfl⟩, jn_none rfl⟩, jn_none rfl⟩
noncomputable def gVNumber (b : List Int) : Option Out :=
 cond (decide ((8 : Int) < ((b.length : Nat) : Int))) (
  some (.ret [.cl (.int .i64 0), .cl (.int .i64 8)] []))
 (
  let x1 : Int := IntKind.i64.wrap ((8 : Int) * ((b.length : Nat) : Int))
  let x2 : Int := IntKind.i64.wrap ((64 : Int) - x1)
  cond (num8 b) (
  let r3 : Int := bytesNum b
  cond (decide (x2 < 0)) none (
  let x4 : Int := IntKind.u64.wrap (r3 * 2 ^ (min x2.toNat 64))
  let x5 : Int := IntKind.i64.wrap x4
  cond (decide (x2 < 0)) none (
  let x6 : Int := Int.fdiv x5 (2 ^ (min x2.toNat 64))
  some (.ret [.cl (.int .i64 x6), .cl (.int .i64 0)] [])))) none)
theorem gVNumber_eq (b : List Int) : bodyK Tryd.prog (EVNumber) 40 false Tryd.f75 [.cl (.sli .u8 b)] [] = gVNumber b := by kernel_rfl
end Go.Proofs.YtfkpjbbkdkcdcaaDoorA

namespace Go.Proofs.YtfkpjbbkdkcdcaaDoorA
end Go.Proofs.YtfkpjbbkdkcdcaaDoorA

namespace Go.Proofs.YtfkpjbbkdkcdcaaDoorA
end Go.Proofs.YtfkpjbbkdkcdcaaDoorA

namespace Go.Proofs.YtfkpjbbkdkcdcaaDoorA
noncomputable def EVTime1 : Env := {
 orc := fun g => cond (Nat.beq g 85) (SSRead) (fun _ _ => Tree.fail)
 pre := fun g => cond (Nat.beq g 85) (preSRead) (fun _ _ => true)
 byref := fun _ => []
 keep := fun _ => false
 live := fun _ => []
 ren := fun _ => []
 glob := glVal
 nt := 9
 lp := fun _ => none
 xl := fun r => cond (Nat.beq r 0) (some [2, 3]) (none)
}
theorem loopsVTime1 : ∀ c, Tryd.f84.body = some c -> LoopsOk Tryd.prog (EVTime1) 40 c := by
 intro c hc
 cases hc
 exact ⟨trivial, ⟨trivial, trivial, jn_none rfl⟩, jn_none rfl⟩
noncomputable def gVTime1 (b : List Int) : Option Out :=
 let s1 : ByteArray := strOf b
 let r2 : Int := (stRead s1).1
 let r3 : Int := (stRead s1).2
 some (.ret [.cl (.int .i64 r2), .cl (.int .i64 r3)] [])
theorem gVTime1_eq (b : List Int) : bodyK Tryd.prog (EVTime1) 40 false Tryd.f84 [.cl (.sli .u8 b)] [] = gVTime1 b := by kernel_rfl
end Go.Proofs.YtfkpjbbkdkcdcaaDoorA

namespace Go.Proofs.YtfkpjbbkdkcdcaaDoorA
noncomputable def EVToldI : Env := {
 orc := fun g => cond (Nat.beq g 75) (SVNumber) (cond (Nat.beq g 84) (SVTime1) (cond (Nat.beq g 119) (SDFit_) (fun _ _ => Tree.fail)))
 pre := fun g => cond (Nat.beq g 75) (preVNumber) (cond (Nat.beq g 84) (preVTime1) (cond (Nat.beq g 119) (preDFit_) (fun _ _ => true)))
 byref := fun _ => []
 keep := fun _ => false
 live := fun _ => []
 ren := fun _ => []
 glob := glVal
 nt := 35
 lp := fun _ => none
 xl := fun r => cond (Nat.beq r 0) (some [6, 7]) (none)
}
theorem loopsVToldI : ∀ c, Tryd.f74.body = some c -> LoopsOk Tryd.prog (EVToldI) 40 c := by
 intro c hc
 cases hc
 exact ⟨trivial, ⟨trivial, ⟨⟨trivial, ⟨⟨trivial, trivial, jn_none rfl⟩, ⟨trivial, ⟨⟨trivial, trivial, jn_none rfl⟩, trivial, jn_none rfl⟩, jn_none rfl⟩, jn_none rfl⟩, jn_none rfl⟩, ⟨trivial, trivial, jn_none rfl⟩, jn_none rfl⟩, jn_none rfl⟩, jn_none rfl⟩
noncomputable def gVToldI_0 (t : Int) (b : List Int) (k : List CV) : Option Out :=
 cond (!decide (t = 2)) (
  some (.ret [.cl (.int .i64 0), .cl (.int .i64 4)] []))
 (
  cond (decide ((0 : Int) < ((k.length : Nat) : Int))) (
   some (.ret [.cl (.int .i64 0), .cl (.int .i64 5)] []))
  (
   cond (isS ([.int .i64 2, .sli .u8 b, .slg 3 []])) (
   let r1 : Bool := ndFit ([.int .i64 2, .sli .u8 b, .slg 3 []])
   cond (!r1) (
    some (.ret [.cl (.int .i64 0), .cl (.int .i64 5)] []))
   (
    cond (bytesOk b) (
    let r2 : Int := (vNumber b).1
    let r3 : Int := (vNumber b).2
    some (.ret [.cl (.int .i64 r2), .cl (.int .i64 r3)] [])) none)) none))
theorem gVToldI_0_eq (t : Int) (b : List Int) (k : List CV) : bodyK Tryd.prog (EVToldI) 40 false Tryd.f74 [.cl (.agg [.int .i64 t, .sli .u8 b, .slg 3 k]), .cl (.int .i64 2), .cl (.fn (.func 75) [] [])] [] = gVToldI_0 t b k := by kernel_rfl
noncomputable def gVToldI_1 (t : Int) (b : List Int) (k : List CV) : Option Out :=
 cond (!decide (t = 24)) (
  some (.ret [.cl (.int .i64 0), .cl (.int .i64 4)] []))
 (
  cond (decide ((0 : Int) < ((k.length : Nat) : Int))) (
   some (.ret [.cl (.int .i64 0), .cl (.int .i64 5)] []))
  (
   cond (isS ([.int .i64 24, .sli .u8 b, .slg 3 []])) (
   let r1 : Bool := ndFit ([.int .i64 24, .sli .u8 b, .slg 3 []])
   cond (!r1) (
    some (.ret [.cl (.int .i64 0), .cl (.int .i64 5)] []))
   (
    let r2 : Int := (stRead (strOf b)).1
    let r3 : Int := (stRead (strOf b)).2
    some (.ret [.cl (.int .i64 r2), .cl (.int .i64 r3)] []))) none))
theorem gVToldI_1_eq (t : Int) (b : List Int) (k : List CV) : bodyK Tryd.prog (EVToldI) 40 false Tryd.f74 [.cl (.agg [.int .i64 t, .sli .u8 b, .slg 3 k]), .cl (.int .i64 24), .cl (.fn (.func 84) [] [])] [] = gVToldI_1 t b k := by kernel_rfl
end Go.Proofs.YtfkpjbbkdkcdcaaDoorA

namespace Go.Proofs.YtfkpjbbkdkcdcaaDoorA
end Go.Proofs.YtfkpjbbkdkcdcaaDoorA

namespace Go.Proofs.YtfkpjbbkdkcdcaaDoorA
end Go.Proofs.YtfkpjbbkdkcdcaaDoorA

namespace Go.Proofs.YtfkpjbbkdkcdcaaDoorA
noncomputable def EVIntOf : Env := {
 orc := fun g => cond (Nat.beq g 74) (SVToldI) (cond (Nat.beq g 75) (SVNumber) (fun _ _ => Tree.fail))
 pre := fun g => cond (Nat.beq g 74) (preVToldI) (cond (Nat.beq g 75) (preVNumber) (fun _ _ => true))
 byref := fun _ => []
 keep := fun _ => false
 live := fun _ => []
 ren := fun _ => []
 glob := glVal
 nt := 8
 lp := fun _ => none
 xl := fun r => cond (Nat.beq r 0) (some [2, 3]) (none)
}
theorem loopsVIntOf : ∀ c, Tryd.f18.body = some c -> LoopsOk Tryd.prog (EVIntOf) 40 c := by
 intro c hc
 cases hc
 exact ⟨trivial, ⟨trivial, trivial, jn_none rfl⟩, jn_none rfl⟩
noncomputable def gVIntOf (t : Int) (b : List Int) (k : List CV) : Option Out :=
 cond (isS [.int .i64 t, .sli .u8 b, .slg 3 k]) (
 let r1 : Int := (vIntOf t b k).1
 let r2 : Int := (vIntOf t b k).2
 some (.ret [.cl (.int .i64 r1), .cl (.int .i64 r2)] [])) none
theorem gVIntOf_eq (t : Int) (b : List Int) (k : List CV) : bodyK Tryd.prog (EVIntOf) 40 false Tryd.f18 [.cl (.agg [.int .i64 t, .sli .u8 b, .slg 3 k])] [] = gVIntOf t b k := by kernel_rfl
end Go.Proofs.YtfkpjbbkdkcdcaaDoorA

namespace Go.Proofs.YtfkpjbbkdkcdcaaDoorA
end Go.Proofs.YtfkpjbbkdkcdcaaDoorA

namespace Go.Proofs.YtfkpjbbkdkcdcaaDoorA
end Go.Proofs.YtfkpjbbkdkcdcaaDoorA

namespace Go.Proofs.YtfkpjbbkdkcdcaaDoorA
end Go.Proofs.YtfkpjbbkdkcdcaaDoorA

namespace Go.Proofs.YtfkpjbbkdkcdcaaDoorA
end Go.Proofs.YtfkpjbbkdkcdcaaDoorA

namespace Go.Proofs.YtfkpjbbkdkcdcaaDoorA
end Go.Proofs.YtfkpjbbkdkcdcaaDoorA

namespace Go.Proofs.YtfkpjbbkdkcdcaaDoorA
end Go.Proofs.YtfkpjbbkdkcdcaaDoorA

namespace Go.Proofs.YtfkpjbbkdkcdcaaDoorA
end Go.Proofs.YtfkpjbbkdkcdcaaDoorA

namespace Go.Proofs.YtfkpjbbkdkcdcaaDoorA
end Go.Proofs.YtfkpjbbkdkcdcaaDoorA

namespace Go.Proofs.YtfkpjbbkdkcdcaaDoorA
end Go.Proofs.YtfkpjbbkdkcdcaaDoorA

namespace Go.Proofs.YtfkpjbbkdkcdcaaDoorA
noncomputable def EVCmp : Env := {
 orc := fun g => cond (Nat.beq g 71) (SBCompare) (fun _ _ => Tree.fail)
 pre := fun g => cond (Nat.beq g 71) (preBCompare) (fun _ _ => true)
 byref := fun _ => []
 keep := fun _ => false
 live := fun _ => []
 ren := fun _ => []
 glob := glVal
 nt := 10
 lp := fun _ => none
 xl := fun r => cond (Nat.beq r 0) (some [4]) (none)
}
theorem loopsVCmp : ∀ c, Tryd.f70.body = some c -> LoopsOk Tryd.prog (EVCmp) 40 c := by
 intro c hc
 cases hc
 exact ⟨trivial, ⟨trivial, trivial, jn_none rfl⟩, jn_none rfl⟩
noncomputable def gVCmp (ta : Int) (ba : List Int) (ka : List CV) (wa : List Int) (tb : Int) (bb : List Int) (kb : List CV) (wb : List Int) : Option Out :=
 cond (bytesOk wa && bytesOk wb) (
 let r1 : Int := listCmp wa wb
 some (.ret [.cl (.int .i64 r1)] [])) none
theorem gVCmp_eq (ta : Int) (ba : List Int) (ka : List CV) (wa : List Int) (tb : Int) (bb : List Int) (kb : List CV) (wb : List Int) : bodyK Tryd.prog (EVCmp) 40 false Tryd.f70 [.cl (.agg [.int .i64 ta, .sli .u8 ba, .slg 3 ka, .sli .u8 wa]), .cl (.agg [.int .i64 tb, .sli .u8 bb, .slg 3 kb, .sli .u8 wb])] [] = gVCmp ta ba ka wa tb bb kb wb := by kernel_rfl
end Go.Proofs.YtfkpjbbkdkcdcaaDoorA

namespace Go.Proofs.YtfkpjbbkdkcdcaaDoorA
noncomputable def lpVInsert_4s (again : Nat -> Int -> Int -> Int -> Int -> (List CV) -> Option Out) (k0 : Nat -> Int -> Int -> Int -> (List CV) -> Option Out) (v1 : Nat) (v2 : Int) (v3 : Int) (v4 : Int) (v5 : Int) (v6 : List CV) : Option Out :=
 cond (decide (v2 < v5)) (
  idxK v5 v1 fun _ =>
  Option.bind (v6[(0 + (Int.toNat v5))]?) fun (e2 : CV) =>
  let e3 : CV := (cell1 e2).headD .nili
  let e4 : CV := (cell1 e2).tail.headD .nili
  let e5 : CV := (cell1 e2).tail.tail.headD .nili
  let e6 : CV := (cell1 e2).tail.tail.tail.headD .nili
  cond (okInt .i64 e3 && (okSli .u8 e4 && (okSlg 3 e5 && (okSli .u8 e6 && true)))) (
  let l10 : List Int := cvSli e6
  let x11 : Int := IntKind.i64.wrap (v5 - 1)
  idxK x11 v1 fun _ =>
  Option.bind (v6[(0 + (Int.toNat x11))]?) fun (e12 : CV) =>
  let e13 : CV := (cell1 e12).headD .nili
  let e14 : CV := (cell1 e12).tail.headD .nili
  let e15 : CV := (cell1 e12).tail.tail.headD .nili
  let e16 : CV := (cell1 e12).tail.tail.tail.headD .nili
  cond (okInt .i64 e13 && (okSli .u8 e14 && (okSlg 3 e15 && (okSli .u8 e16 && true)))) (
  let l20 : List Int := cvSli e16
  cond (bytesOk l10 && bytesOk l20) (
  let r21 : Int := listCmp l10 l20
  cond (decide (r21 < 0)) (
   let x22 : Int := IntKind.i64.wrap (v5 - 1)
   let x23 : Int := IntKind.i64.wrap (v5 - 1)
   idxK x23 v1 fun _ =>
   Option.bind (v6[(0 + (Int.toNat x23))]?) fun (e24 : CV) =>
   let e25 : CV := (cell1 e24).headD .nili
   let e26 : CV := (cell1 e24).tail.headD .nili
   let e27 : CV := (cell1 e24).tail.tail.headD .nili
   let e28 : CV := (cell1 e24).tail.tail.tail.headD .nili
   cond (okInt .i64 e25 && (okSli .u8 e26 && (okSlg 3 e27 && (okSli .u8 e28 && true)))) (
   let i29 : Int := cvInt e25
   let l30 : List Int := cvSli e26
   let l31 : List CV := cvSlg e27
   let l32 : List Int := cvSli e28
   idxK v5 v1 fun _ =>
   Option.bind (v6[(0 + (Int.toNat v5))]?) fun (e33 : CV) =>
   let e34 : CV := (cell1 e33).headD .nili
   let e35 : CV := (cell1 e33).tail.headD .nili
   let e36 : CV := (cell1 e33).tail.tail.headD .nili
   let e37 : CV := (cell1 e33).tail.tail.tail.headD .nili
   cond (okInt .i64 e34 && (okSli .u8 e35 && (okSlg 3 e36 && (okSli .u8 e37 && true)))) (
   let i38 : Int := cvInt e34
   let l39 : List Int := cvSli e35
   let l40 : List CV := cvSlg e36
   let l41 : List Int := cvSli e37
   idxK v5 v1 fun _ =>
   let l42 : List CV := v6.set (0 + (Int.toNat v5)) (.agg [.int .i64 i29, .sli .u8 l30, .slg 3 l31, .sli .u8 l32])
   idxK x22 v1 fun _ =>
   let l43 : List CV := l42.set (0 + (Int.toNat x22)) (.agg [.int .i64 i38, .sli .u8 l39, .slg 3 l40, .sli .u8 l41])
   let x44 : Int := IntKind.i64.wrap (v5 - 1)
   again v1 v2 v3 v4 x44 l43) none) none)
  (
   k0 v1 v2 v3 v4 v6)) none) none) none)
 (
  k0 v1 v2 v3 v4 v6)
noncomputable def lpVInsert_4 (k0 : Nat -> Int -> Int -> Int -> (List CV) -> Option Out) : Nat -> Nat -> Int -> Int -> Int -> Int -> (List CV) -> Option Out := iterF (fun a => lpVInsert_4s a k0) (fun _ _ _ _ _ _ => none)
noncomputable def lpVInsert_1s (again : Nat -> Int -> Int -> Int -> (List CV) -> Option Out) (k0 : (List CV) -> Option Out) (v1 : Nat) (v2 : Int) (v3 : Int) (v4 : Int) (v5 : List CV) : Option Out :=
 cond (decide (v4 < v3)) (
  shut (lpVInsert_4
  (fun (y2 : Nat) (y3 : Int) (y4 : Int) (y5 : Int) (y6 : List CV) =>
   let x7 : Int := IntKind.i64.wrap (y5 + 1)
   again y2 y3 y4 x7 y6)
  FUEL) v1 v2 v3 v4 v4 v5)
 (
  k0 v5)
noncomputable def lpVInsert_1 (k0 : (List CV) -> Option Out) : Nat -> Nat -> Int -> Int -> Int -> (List CV) -> Option Out := iterF (fun a => lpVInsert_1s a k0) (fun _ _ _ _ _ => none)
noncomputable def LVInsert_4 : St -> (Ex -> St -> Option Out) -> Option Out := fun σ k => match σ with
 | ⟨[(q1, .ref q2 q3 v1 true q4), (q5, .cl (.int .i64 v2)), (q6, .cl (.int .i64 v3)), (q7, .cl (.fn (.func q8) [] [])), (q9, .cl (.int .i64 v4)), (q10, .cl (.int .i64 v5))], [(q11, ⟨.gen q12 v6, false⟩)]⟩ => cond (Nat.beq q1 0 && Nat.beq q2 0 && Nat.beq q3 0 && Nat.beq q4 4 && Nat.beq q5 1 && Nat.beq q6 2 && Nat.beq q7 3 && Nat.beq q8 70 && Nat.beq q9 8 && Nat.beq q10 9 && Nat.beq q11 0 && Nat.beq q12 4) (shut (lpVInsert_4 (fun y1 y2 y3 y4 y5 => k (.exit 2) ⟨[(0, .ref 0 0 y1 true 4), (1, .cl (.int .i64 y2)), (2, .cl (.int .i64 y3)), (3, .cl (.fn (.func 70) [] [])), (8, .cl (.int .i64 y4))], [(0, ⟨.gen 4 y5, false⟩)]⟩) FUEL) v1 v2 v3 v4 v5 v6) none
 | _ => none
noncomputable def LVInsert_1 : St -> (Ex -> St -> Option Out) -> Option Out := fun σ k => match σ with
 | ⟨[(q1, .ref q2 q3 v1 true q4), (q5, .cl (.int .i64 v2)), (q6, .cl (.int .i64 v3)), (q7, .cl (.fn (.func q8) [] [])), (q9, .cl (.int .i64 v4))], [(q10, ⟨.gen q11 v5, false⟩)]⟩ => cond (Nat.beq q1 0 && Nat.beq q2 0 && Nat.beq q3 0 && Nat.beq q4 4 && Nat.beq q5 1 && Nat.beq q6 2 && Nat.beq q7 3 && Nat.beq q8 70 && Nat.beq q9 8 && Nat.beq q10 0 && Nat.beq q11 4) (shut (lpVInsert_1 (fun y1 => k (.exit 0) ⟨[], [(0, ⟨.gen 4 y1, false⟩)]⟩) FUEL) v1 v2 v3 v4 v5) none
 | _ => none
noncomputable def EVInsert : Env := {
 orc := fun g => cond (Nat.beq g 70) (SVCmp) (fun _ _ => Tree.fail)
 pre := fun g => cond (Nat.beq g 70) (preVCmp) (fun _ _ => true)
 byref := fun _ => []
 keep := fun _ => false
 live := fun r => cond (Nat.beq r 1) ([0, 1, 2, 3, 8]) (cond (Nat.beq r 4) ([0, 1, 2, 3, 8, 9]) ([]))
 ren := fun _ => []
 glob := glVal
 nt := 53
 lp := fun r => cond (Nat.beq r 1) (some (LVInsert_1)) (cond (Nat.beq r 4) (some (LVInsert_4)) (none))
 xl := fun r => cond (Nat.beq r 0) (some []) (cond (Nat.beq r 1) (some []) (cond (Nat.beq r 3) (some [0, 1, 2, 3, 8]) (none)))
}
noncomputable def blpVInsert_4 : Code := (Cd.fst (Cd.fst (Cd.snd (Cd.fst (Cd.fst (Cd.snd (Cd.fst (Cd.fst (Cd.snd (Tryd.f152.body.getD .skip))))))))))
noncomputable def blpVInsert_1 : Code := (Cd.fst (Cd.fst (Cd.snd (Tryd.f152.body.getD .skip))))
theorem LVInsert_4_ok : LpOk Tryd.prog (EVInsert) 40 blpVInsert_4 4 LVInsert_4 := by
 intro σ k r h
 unfold LVInsert_4 at h
 split at h
 ·replace h := cond_some h
  obtain ⟨hc, h⟩ := h
  simp only [Bool.and_eq_true, beq_prop, decide_eq_true_eq, Bool.not_eq_true'] at hc
  obtain ⟨⟨⟨⟨⟨⟨⟨⟨⟨⟨⟨rfl, rfl⟩, rfl⟩, rfl⟩, rfl⟩, rfl⟩, rfl⟩, rfl⟩, rfl⟩, rfl⟩, rfl⟩, rfl⟩ := hc
  rw [shut_eq] at h
  exact ⟨FUEL, iter_ok (F := fun n v1 v2 v3 v4 v5 v6 => iterK n (codeK Tryd.prog (EVInsert) 40 blpVInsert_4) (head (EVInsert) 4) ⟨[(0, .ref 0 0 v1 true 4), (1, .cl (.int .i64 v2)), (2, .cl (.int .i64 v3)), (3, .cl (.fn (.func 70) [] [])), (8, .cl (.int .i64 v4)), (9, .cl (.int .i64 v5))], [(0, ⟨.gen 4 v6, false⟩)]⟩ k) (Q := fun f => f _ _ _ _ _ _ = some r) rfl (fun n => by kernel_rfl) h⟩
 ·cases h
theorem LVInsert_1_ok : LpOk Tryd.prog (EVInsert) 40 blpVInsert_1 1 LVInsert_1 := by
 intro σ k r h
 unfold LVInsert_1 at h
 split at h
 ·replace h := cond_some h
  obtain ⟨hc, h⟩ := h
  simp only [Bool.and_eq_true, beq_prop, decide_eq_true_eq, Bool.not_eq_true'] at hc
  obtain ⟨⟨⟨⟨⟨⟨⟨⟨⟨⟨rfl, rfl⟩, rfl⟩, rfl⟩, rfl⟩, rfl⟩, rfl⟩, rfl⟩, rfl⟩, rfl⟩, rfl⟩ := hc
  rw [shut_eq] at h
  exact ⟨FUEL, iter_ok (F := fun n v1 v2 v3 v4 v5 => iterK n (codeK Tryd.prog (EVInsert) 40 blpVInsert_1) (head (EVInsert) 1) ⟨[(0, .ref 0 0 v1 true 4), (1, .cl (.int .i64 v2)), (2, .cl (.int .i64 v3)), (3, .cl (.fn (.func 70) [] [])), (8, .cl (.int .i64 v4))], [(0, ⟨.gen 4 v5, false⟩)]⟩ k) (Q := fun f => f _ _ _ _ _ = some r) rfl (fun n => by kernel_rfl) h⟩
 ·cases h
theorem loopsVInsert : ∀ c, Tryd.f152.body = some c -> LoopsOk Tryd.prog (EVInsert) 40 c := by
 intro c hc
 cases hc
 exact ⟨trivial, ⟨⟨⟨trivial, ⟨trivial, trivial, jn_none rfl⟩, jn_none rfl⟩, ⟨⟨trivial, ⟨⟨⟨trivial, ⟨trivial, trivial, jn_none rfl⟩, jn_none rfl⟩, ⟨trivial, trivial, jn_none rfl⟩, jn_none rfl⟩, lp_some rfl (LVInsert_4_ok)⟩, jn_none rfl⟩, trivial, jn_none rfl⟩, jn_none rfl⟩, lp_some rfl (LVInsert_1_ok)⟩, jn_none rfl⟩
noncomputable def gVInsert (m : Nat) (a : Int) (n : Int) (l : List CV) : Option Out :=
 let x1 : Int := IntKind.i64.wrap (a + 1)
 shut (lpVInsert_1
 (fun (y2 : List CV) =>
  some (.ret [] [some ⟨.gen 4 y2, false⟩]))
 FUEL) m a n x1 l
theorem gVInsert_eq (m : Nat) (a : Int) (n : Int) (l : List CV) : bodyK Tryd.prog (EVInsert) 40 false Tryd.f152 [.ref 0 0 m true 4, .cl (.int .i64 a), .cl (.int .i64 n), .cl (.fn (.func 70) [] [])] [⟨.gen 4 l, false⟩] = gVInsert m a n l := by kernel_rfl
end Go.Proofs.YtfkpjbbkdkcdcaaDoorA

namespace Go.Proofs.YtfkpjbbkdkcdcaaDoorA
noncomputable def lpVStable_2s (again : Nat -> Int -> Int -> Int -> (List CV) -> Option Out) (k0 : Nat -> Int -> Int -> (List CV) -> Option Out) (v1 : Nat) (v2 : Int) (v3 : Int) (v4 : Int) (v5 : List CV) : Option Out :=
 cond (decide (v4 <= v2)) (
  cond (srtOk v1 v5 && decide (v3 = 0 /\ v4 = (v1 : Int))) (
  let r1 : List CV := vSort v5
  let x2 : Int := IntKind.i64.wrap (v4 + 20)
  again v1 v2 v4 x2 r1) none)
 (
  k0 v1 v2 v3 v5)
noncomputable def lpVStable_2 (k0 : Nat -> Int -> Int -> (List CV) -> Option Out) : Nat -> Nat -> Int -> Int -> Int -> (List CV) -> Option Out := iterF (fun a => lpVStable_2s a k0) (fun _ _ _ _ _ => none)
noncomputable def lpVStable_9s (again : Nat -> Int -> Int -> Int -> Int -> (List CV) -> Option Out) (k0 : Nat -> Int -> Int -> Int -> (List CV) -> Option Out) (v1 : Nat) (v2 : Int) (v3 : Int) (v4 : Int) (v5 : Int) (v6 : List CV) : Option Out :=
 cond (decide (v5 <= v2)) (
  cond (false) (
  let x8 : Int := IntKind.i64.wrap ((2 : Int) * v3)
  let x9 : Int := IntKind.i64.wrap (v5 + x8)
  again v1 v2 v3 v5 x9 v6) none)
 (
  k0 v1 v2 v3 v4 v6)
noncomputable def lpVStable_9 (k0 : Nat -> Int -> Int -> Int -> (List CV) -> Option Out) : Nat -> Nat -> Int -> Int -> Int -> Int -> (List CV) -> Option Out := iterF (fun a => lpVStable_9s a k0) (fun _ _ _ _ _ _ => none)
noncomputable def lpVStable_7s (again : Nat -> Int -> Int -> (List CV) -> Option Out) (k0 : (List CV) -> Option Out) (v1 : Nat) (v2 : Int) (v3 : Int) (v4 : List CV) : Option Out :=
 cond (decide (v3 < v2)) (
  let x6 : Int := IntKind.i64.wrap ((2 : Int) * v3)
  shut (lpVStable_9
  (fun (y7 : Nat) (y8 : Int) (y9 : Int) (y10 : Int) (y11 : List CV) =>
   let x12 : Int := IntKind.i64.wrap (y10 + y9)
   cond (decide (x12 < y8)) (
    cond (false) (
    let x13 : Int := IntKind.i64.wrap (y9 * 2)
    again y7 y8 x13 y11) none)
   (
    let x14 : Int := IntKind.i64.wrap (y9 * 2)
    again y7 y8 x14 y11))
  FUEL) v1 v2 v3 0 x6 v4)
 (
  k0 v4)
noncomputable def lpVStable_7 (k0 : (List CV) -> Option Out) : Nat -> Nat -> Int -> Int -> (List CV) -> Option Out := iterF (fun a => lpVStable_7s a k0) (fun _ _ _ _ => none)
noncomputable def LVStable_2 : St -> (Ex -> St -> Option Out) -> Option Out := fun σ k => match σ with
 | ⟨[(q1, .ref q2 q3 v1 true q4), (q5, .cl (.int .i64 v2)), (q6, .cl (.fn (.func q7) [] [])), (q8, .cl (.int .i64 q9)), (q10, .cl (.int .i64 v3)), (q11, .cl (.int .i64 v4))], [(q12, ⟨.gen q13 v5, false⟩)]⟩ => cond (Nat.beq q1 0 && Nat.beq q2 0 && Nat.beq q3 0 && Nat.beq q4 4 && Nat.beq q5 1 && Nat.beq q6 2 && Nat.beq q7 70 && Nat.beq q8 6 && decide (q9 = 20) && Nat.beq q10 7 && Nat.beq q11 8 && Nat.beq q12 0 && Nat.beq q13 4) (shut (lpVStable_2 (fun y1 y2 y3 y4 => k (.exit 0) ⟨[(0, .ref 0 0 y1 true 4), (1, .cl (.int .i64 y2)), (2, .cl (.fn (.func 70) [] [])), (6, .cl (.int .i64 20)), (7, .cl (.int .i64 y3))], [(0, ⟨.gen 4 y4, false⟩)]⟩) FUEL) v1 v2 v3 v4 v5) none
 | _ => none
noncomputable def LVStable_9 : St -> (Ex -> St -> Option Out) -> Option Out := fun σ k => match σ with
 | ⟨[(q1, .ref q2 q3 v1 true q4), (q5, .cl (.int .i64 v2)), (q6, .cl (.fn (.func q7) [] [])), (q8, .cl (.int .i64 v3)), (q9, .cl (.int .i64 v4)), (q10, .cl (.int .i64 v5))], [(q11, ⟨.gen q12 v6, false⟩)]⟩ => cond (Nat.beq q1 0 && Nat.beq q2 0 && Nat.beq q3 0 && Nat.beq q4 4 && Nat.beq q5 1 && Nat.beq q6 2 && Nat.beq q7 70 && Nat.beq q8 6 && Nat.beq q9 7 && Nat.beq q10 8 && Nat.beq q11 0 && Nat.beq q12 4) (shut (lpVStable_9 (fun y1 y2 y3 y4 y5 => k (.exit 4) ⟨[(0, .ref 0 0 y1 true 4), (1, .cl (.int .i64 y2)), (2, .cl (.fn (.func 70) [] [])), (6, .cl (.int .i64 y3)), (7, .cl (.int .i64 y4))], [(0, ⟨.gen 4 y5, false⟩)]⟩) FUEL) v1 v2 v3 v4 v5 v6) none
 | _ => none
noncomputable def LVStable_7 : St -> (Ex -> St -> Option Out) -> Option Out := fun σ k => match σ with
 | ⟨[(q1, .ref q2 q3 v1 true q4), (q5, .cl (.int .i64 v2)), (q6, .cl (.fn (.func q7) [] [])), (q8, .cl (.int .i64 v3))], [(q9, ⟨.gen q10 v4, false⟩)]⟩ => cond (Nat.beq q1 0 && Nat.beq q2 0 && Nat.beq q3 0 && Nat.beq q4 4 && Nat.beq q5 1 && Nat.beq q6 2 && Nat.beq q7 70 && Nat.beq q8 6 && Nat.beq q9 0 && Nat.beq q10 4) (shut (lpVStable_7 (fun y1 => k (.exit 2) ⟨[], [(0, ⟨.gen 4 y1, false⟩)]⟩) FUEL) v1 v2 v3 v4) none
 | _ => none
noncomputable def EVStable : Env := {
 orc := fun g => cond (Nat.beq g 70) (SVCmp) (cond (Nat.beq g 152) (SVInsert) (cond (Nat.beq g 153) (SVMerge) (fun _ _ => Tree.fail)))
 pre := fun g => cond (Nat.beq g 70) (preVCmp) (cond (Nat.beq g 152) (preVInsert) (cond (Nat.beq g 153) (preVMerge) (fun _ _ => true)))
 byref := fun g => cond (Nat.beq g 152) ([0]) (cond (Nat.beq g 153) ([0]) ([]))
 keep := fun _ => false
 live := fun r => cond (Nat.beq r 2) ([0, 1, 2, 6, 7, 8]) (cond (Nat.beq r 7) ([0, 1, 2, 6]) (cond (Nat.beq r 9) ([0, 1, 2, 6, 7, 8]) ([])))
 ren := fun _ => []
 glob := glVal
 nt := 63
 lp := fun r => cond (Nat.beq r 2) (some (LVStable_2)) (cond (Nat.beq r 7) (some (LVStable_7)) (cond (Nat.beq r 9) (some (LVStable_9)) (none)))
 xl := fun r => cond (Nat.beq r 0) (some []) (cond (Nat.beq r 1) (some [0, 1, 2, 6, 7]) (cond (Nat.beq r 3) (some []) (cond (Nat.beq r 5) (some [0, 1, 2, 6, 7]) (none))))
}
noncomputable def blpVStable_2 : Code := (Cd.fst (Cd.fst (Cd.fst (Cd.snd (Cd.snd (Tryd.f115.body.getD .skip))))))
noncomputable def blpVStable_9 : Code := (Cd.fst (Cd.fst (Cd.fst (Cd.snd (Cd.fst (Cd.snd (Cd.fst (Cd.fst (Cd.snd (Cd.snd (Cd.snd (Cd.snd (Tryd.f115.body.getD .skip)))))))))))))
noncomputable def blpVStable_7 : Code := (Cd.fst (Cd.fst (Cd.snd (Cd.snd (Cd.snd (Cd.snd (Tryd.f115.body.getD .skip)))))))
theorem LVStable_2_ok : LpOk Tryd.prog (EVStable) 40 blpVStable_2 2 LVStable_2 := by
 intro σ k r h
 unfold LVStable_2 at h
 split at h
 ·replace h := cond_some h
  obtain ⟨hc, h⟩ := h
  simp only [Bool.and_eq_true, beq_prop, decide_eq_true_eq, Bool.not_eq_true'] at hc
  obtain ⟨⟨⟨⟨⟨⟨⟨⟨⟨⟨⟨⟨rfl, rfl⟩, rfl⟩, rfl⟩, rfl⟩, rfl⟩, rfl⟩, rfl⟩, rfl⟩, rfl⟩, rfl⟩, rfl⟩, rfl⟩ := hc
  rw [shut_eq] at h
  exact ⟨FUEL, iter_ok (F := fun n v1 v2 v3 v4 v5 => iterK n (codeK Tryd.prog (EVStable) 40 blpVStable_2) (head (EVStable) 2) ⟨[(0, .ref 0 0 v1 true 4), (1, .cl (.int .i64 v2)), (2, .cl (.fn (.func 70) [] [])), (6, .cl (.int .i64 20)), (7, .cl (.int .i64 v3)), (8, .cl (.int .i64 v4))], [(0, ⟨.gen 4 v5, false⟩)]⟩ k) (Q := fun f => f _ _ _ _ _ = some r) rfl (fun n => by kernel_rfl) h⟩
 ·cases h
theorem LVStable_9_ok : LpOk Tryd.prog (EVStable) 40 blpVStable_9 9 LVStable_9 := by
 intro σ k r h
 unfold LVStable_9 at h
 split at h
 ·replace h := cond_some h
  obtain ⟨hc, h⟩ := h
  simp only [Bool.and_eq_true, beq_prop, decide_eq_true_eq, Bool.not_eq_true'] at hc
  obtain ⟨⟨⟨⟨⟨⟨⟨⟨⟨⟨⟨rfl, rfl⟩, rfl⟩, rfl⟩, rfl⟩, rfl⟩, rfl⟩, rfl⟩, rfl⟩, rfl⟩, rfl⟩, rfl⟩ := hc
  rw [shut_eq] at h
  exact ⟨FUEL, iter_ok (F := fun n v1 v2 v3 v4 v5 v6 => iterK n (codeK Tryd.prog (EVStable) 40 blpVStable_9) (head (EVStable) 9) ⟨[(0, .ref 0 0 v1 true 4), (1, .cl (.int .i64 v2)), (2, .cl (.fn (.func 70) [] [])), (6, .cl (.int .i64 v3)), (7, .cl (.int .i64 v4)), (8, .cl (.int .i64 v5))], [(0, ⟨.gen 4 v6, false⟩)]⟩ k) (Q := fun f => f _ _ _ _ _ _ = some r) rfl (fun n => by kernel_rfl) h⟩
 ·cases h
theorem LVStable_7_ok : LpOk Tryd.prog (EVStable) 40 blpVStable_7 7 LVStable_7 := by
 intro σ k r h
 unfold LVStable_7 at h
 split at h
 ·replace h := cond_some h
  obtain ⟨hc, h⟩ := h
  simp only [Bool.and_eq_true, beq_prop, decide_eq_true_eq, Bool.not_eq_true'] at hc
  obtain ⟨⟨⟨⟨⟨⟨⟨⟨⟨rfl, rfl⟩, rfl⟩, rfl⟩, rfl⟩, rfl⟩, rfl⟩, rfl⟩, rfl⟩, rfl⟩ := hc
  rw [shut_eq] at h
  exact ⟨FUEL, iter_ok (F := fun n v1 v2 v3 v4 => iterK n (codeK Tryd.prog (EVStable) 40 blpVStable_7) (head (EVStable) 7) ⟨[(0, .ref 0 0 v1 true 4), (1, .cl (.int .i64 v2)), (2, .cl (.fn (.func 70) [] [])), (6, .cl (.int .i64 v3))], [(0, ⟨.gen 4 v4, false⟩)]⟩ k) (Q := fun f => f _ _ _ _ = some r) rfl (fun n => by kernel_rfl) h⟩
 ·cases h
theorem loopsVStable : ∀ c, Tryd.f115.body = some c -> LoopsOk Tryd.prog (EVStable) 40 c := by
 intro c hc
 cases hc
 exact ⟨trivial, ⟨trivial, ⟨⟨⟨⟨trivial, ⟨trivial, trivial, jn_none rfl⟩, jn_none rfl⟩, ⟨trivial, ⟨trivial, trivial, jn_none rfl⟩, jn_none rfl⟩, jn_none rfl⟩, lp_some rfl (LVStable_2_ok)⟩, ⟨trivial, ⟨⟨⟨trivial, ⟨trivial, trivial, jn_none rfl⟩, jn_none rfl⟩, ⟨trivial, ⟨⟨⟨⟨trivial, ⟨trivial, trivial, jn_none rfl⟩, jn_none rfl⟩, ⟨trivial, ⟨trivial, trivial, jn_none rfl⟩, jn_none rfl⟩, jn_none rfl⟩, lp_some rfl (LVStable_9_ok)⟩, ⟨⟨trivial, ⟨trivial, ⟨trivial, trivial, jn_none rfl⟩, jn_none rfl⟩, jn_none rfl⟩, trivial, jn_none rfl⟩, jn_none rfl⟩, jn_none rfl⟩, jn_none rfl⟩, lp_some rfl (LVStable_7_ok)⟩, jn_none rfl⟩, jn_none rfl⟩, jn_none rfl⟩, jn_none rfl⟩
noncomputable def gVStable (m : Nat) (n : Int) (l : List CV) : Option Out :=
 shut (lpVStable_2
 (fun (y1 : Nat) (y2 : Int) (y3 : Int) (y4 : List CV) =>
  cond (srtOk y1 y4 && decide (y3 = 0 /\ y2 = (y1 : Int))) (
  let r5 : List CV := vSort y4
  shut (lpVStable_7
  (fun (y6 : List CV) =>
   some (.ret [] [some ⟨.gen 4 y6, false⟩]))
  FUEL) y1 y2 20 r5) none)
 FUEL) m n 0 20 l
theorem gVStable_eq (m : Nat) (n : Int) (l : List CV) : bodyK Tryd.prog (EVStable) 40 false Tryd.f115 [.ref 0 0 m true 4, .cl (.int .i64 n), .cl (.fn (.func 70) [] [])] [⟨.gen 4 l, false⟩] = gVStable m n l := by kernel_rfl
end Go.Proofs.YtfkpjbbkdkcdcaaDoorA

namespace Go.Proofs.YtfkpjbbkdkcdcaaDoorA
noncomputable def EVSort : Env := {
 orc := fun g => cond (Nat.beq g 70) (SVCmp) (cond (Nat.beq g 115) (SVStable) (fun _ _ => Tree.fail))
 pre := fun g => cond (Nat.beq g 70) (preVCmp) (cond (Nat.beq g 115) (preVStable) (fun _ _ => true))
 byref := fun g => cond (Nat.beq g 115) ([0]) ([])
 keep := fun _ => false
 live := fun _ => []
 ren := fun _ => []
 glob := glVal
 nt := 9
 lp := fun _ => none
 xl := fun r => cond (Nat.beq r 0) (some []) (none)
}
theorem loopsVSort : ∀ c, Tryd.f69.body = some c -> LoopsOk Tryd.prog (EVSort) 40 c := by
 intro c hc
 cases hc
 exact trivial
noncomputable def gVSort (m : Nat) (l : List CV) : Option Out :=
 cond (srtOk m l && decide (((m : Nat) : Int) = (m : Int))) (
 let r1 : List CV := vSort l
 some (.ret [] [some ⟨.gen 4 r1, false⟩])) none
theorem gVSort_eq (m : Nat) (l : List CV) : bodyK Tryd.prog (EVSort) 40 false Tryd.f69 [.ref 0 0 m true 4, .cl (.fn (.func 70) [] [])] [⟨.gen 4 l, false⟩] = gVSort m l := by kernel_rfl
end Go.Proofs.YtfkpjbbkdkcdcaaDoorA

namespace Go.Proofs.YtfkpjbbkdkcdcaaDoorA
noncomputable def lpVSet_3s (again : Nat -> (List CV) -> Int -> Int -> (List CV) -> Option Out) (k0 : Option Out) (k1 : Nat -> (List CV) -> Option Out) (v1 : Nat) (v2 : List CV) (v3 : Int) (v4 : Int) (v5 : List CV) : Option Out :=
 cond (decide (v4 < v3)) (
  getK v2 v4 fun e1 =>
  let e2 : CV := (cell1 e1).headD .nili
  let e3 : CV := (cell1 e1).tail.headD .nili
  let e4 : CV := (cell1 e1).tail.tail.headD .nili
  cond (okInt .i64 e2 && (okSli .u8 e3 && (okSlg 3 e4 && true))) (
  let i5 : Int := cvInt e2
  let l6 : List Int := cvSli e3
  let l7 : List CV := cvSlg e4
  cond (isS [.int .i64 i5, .sli .u8 l6, .slg 3 l7]) (
  let r8 : List Int := (ndBytes [.int .i64 i5, .sli .u8 l6, .slg 3 l7]).1
  let r9 : Int := (ndBytes [.int .i64 i5, .sli .u8 l6, .slg 3 l7]).2
  cond (!decide (r9 = 0)) (
   k0)
  (
   idxK v4 v1 fun _ =>
   let l10 : List CV := v5.set (0 + (Int.toNat v4)) (.agg [.int .i64 i5, .sli .u8 l6, .slg 3 l7, .sli .u8 r8])
   let x11 : Int := IntKind.i64.wrap (v4 + 1)
   again v1 v2 v3 x11 l10)) none) none)
 (
  k1 v1 v5)
noncomputable def lpVSet_3 (k0 : Option Out) (k1 : Nat -> (List CV) -> Option Out) : Nat -> Nat -> (List CV) -> Int -> Int -> (List CV) -> Option Out := iterF (fun a => lpVSet_3s a k0 k1) (fun _ _ _ _ _ => none)
noncomputable def lpVSet_13s (again : Nat -> Int -> Int -> Nat -> (List CV) -> (List CV) -> Option Out) (k0 : Nat -> (List CV) -> Option Out) (v1 : Nat) (v2 : Int) (v3 : Int) (v4 : Nat) (v5 : List CV) (v6 : List CV) : Option Out :=
 cond (decide (v3 < v2)) (
  idxK v3 v1 fun _ =>
  Option.bind (v5[(0 + (Int.toNat v3))]?) fun (e4 : CV) =>
  let e5 : CV := (cell1 e4).headD .nili
  let e6 : CV := (cell1 e4).tail.headD .nili
  let e7 : CV := (cell1 e4).tail.tail.headD .nili
  let e8 : CV := (cell1 e4).tail.tail.tail.headD .nili
  cond (okInt .i64 e5 && (okSli .u8 e6 && (okSlg 3 e7 && (okSli .u8 e8 && true)))) (
  let i9 : Int := cvInt e5
  let l10 : List Int := cvSli e6
  let l11 : List CV := cvSlg e7
  let l13 : List CV := v6 ++ ([.agg [.int .i64 i9, .sli .u8 l10, .slg 3 l11]])
  rmK l13.length 56 <|
  let x14 : Int := IntKind.i64.wrap (v3 + 1)
  again v1 v2 x14 l13.length v5 l13) none)
 (
  k0 v4 v6)
noncomputable def lpVSet_13 (k0 : Nat -> (List CV) -> Option Out) : Nat -> Nat -> Int -> Int -> Nat -> (List CV) -> (List CV) -> Option Out := iterF (fun a => lpVSet_13s a k0) (fun _ _ _ _ _ _ => none)
noncomputable def LVSet_3 : St -> (Ex -> St -> Option Out) -> Option Out := fun σ k => match σ with
 | ⟨[(q1, .ptr q2 q3 q4), (q5, .ref q6 q7 v1 true q8), (q9, .cl (.slg q10 v2)), (q11, .cl (.int .i64 v3)), (q12, .cl (.int .i64 v4))], [(q13, ⟨.var [.cl (.int .i64 q14), .nils, .nils], false⟩), (q15, ⟨.gen q16 v5, false⟩)]⟩ => cond (Nat.beq q1 2 && Nat.beq q2 66 && Nat.beq q3 0 && Nat.beq q4 0 && Nat.beq q5 4 && Nat.beq q6 78 && Nat.beq q7 0 && Nat.beq q8 4 && Nat.beq q9 15 && Nat.beq q10 3 && Nat.beq q11 16 && Nat.beq q12 17 && Nat.beq q13 66 && decide (q14 = 0) && Nat.beq q15 78 && Nat.beq q16 4) (shut (lpVSet_3 (k .ret ⟨[(2, .ptr 66 0 0), (3, .cl (.int .i64 1))], [(66, ⟨.var [.cl (.int .i64 0), .nils, .nils], false⟩)]⟩) (fun y1 y2 => k (.exit 0) ⟨[(2, .ptr 66 0 0), (4, .ref 78 0 y1 true 4)], [(66, ⟨.var [.cl (.int .i64 0), .nils, .nils], false⟩), (78, ⟨.gen 4 y2, false⟩)]⟩) FUEL) v1 v2 v3 v4 v5) none
 | _ => none
noncomputable def LVSet_13 : St -> (Ex -> St -> Option Out) -> Option Out := fun σ k => match σ with
 | ⟨[(q1, .ptr q2 q3 q4), (q5, .ptr q6 q7 q8), (q9, .ref q10 q11 v1 true q12), (q13, .cl (.int .i64 v2)), (q14, .cl (.int .i64 v3))], [(q15, ⟨.var [.cl (.int .i64 q16), .nils, .nils], false⟩), (q17, ⟨.var [.cl (.int .i64 q18), .nils, .ref q19 q20 v4 true q21], false⟩), (q22, ⟨.gen q23 v5, false⟩), (q24, ⟨.gen q25 v6, false⟩)]⟩ => cond (Nat.beq q1 2 && Nat.beq q2 66 && Nat.beq q3 0 && Nat.beq q4 0 && Nat.beq q5 9 && Nat.beq q6 73 && Nat.beq q7 0 && Nat.beq q8 0 && Nat.beq q9 40 && Nat.beq q10 78 && Nat.beq q11 0 && Nat.beq q12 4 && Nat.beq q13 41 && Nat.beq q14 42 && Nat.beq q15 66 && decide (q16 = 0) && Nat.beq q17 73 && decide (q18 = 49) && Nat.beq q19 115 && Nat.beq q20 0 && Nat.beq q21 3 && Nat.beq q22 78 && Nat.beq q23 4 && Nat.beq q24 115 && Nat.beq q25 3) (shut (lpVSet_13 (fun y1 y2 => k (.exit 2) ⟨[(2, .ptr 66 0 0), (9, .ptr 73 0 0)], [(66, ⟨.var [.cl (.int .i64 0), .nils, .nils], false⟩), (73, ⟨.var [.cl (.int .i64 49), .nils, .ref 115 0 y1 true 3], false⟩), (115, ⟨.gen 3 y2, false⟩)]⟩) FUEL) v1 v2 v3 v4 v5 v6) none
 | _ => none
noncomputable def EVSet : Env := {
 orc := fun g => cond (Nat.beq g 68) (SDBytes) (cond (Nat.beq g 69) (SVSort) (cond (Nat.beq g 70) (SVCmp) (fun _ _ => Tree.fail)))
 pre := fun g => cond (Nat.beq g 68) (preDBytes) (cond (Nat.beq g 69) (preVSort) (cond (Nat.beq g 70) (preVCmp) (fun _ _ => true)))
 byref := fun g => cond (Nat.beq g 69) ([0]) ([])
 keep := fun _ => false
 live := fun r => cond (Nat.beq r 3) ([2, 4, 15, 16, 17]) (cond (Nat.beq r 13) ([2, 9, 40, 41, 42]) ([]))
 ren := fun _ => []
 vir := fun r => cond (Nat.beq r 13) ([(73, 2, 115, .gen 3 [])]) ([])
 glob := glVal
 nt := 55
 lp := fun r => cond (Nat.beq r 3) (some (LVSet_3)) (cond (Nat.beq r 13) (some (LVSet_13)) (none))
 xl := fun r => cond (Nat.beq r 0) (some [2, 3]) (cond (Nat.beq r 1) (some [2, 4]) (cond (Nat.beq r 3) (some [2, 9]) (none)))
}
noncomputable def blpVSet_3 : Code := (Cd.fst (Cd.fst (Cd.snd (Cd.fst (Cd.snd (Cd.snd (Tryd.f12.body.getD .skip)))))))
noncomputable def blpVSet_13 : Code := (Cd.fst (Cd.fst (Cd.snd (Cd.fst (Cd.snd (Cd.snd (Cd.snd (Cd.snd (Cd.snd (Tryd.f12.body.getD .skip))))))))))
theorem LVSet_3_ok : LpOk Tryd.prog (EVSet) 40 blpVSet_3 3 LVSet_3 := by
 intro σ k r h
 unfold LVSet_3 at h
 split at h
 ·replace h := cond_some h
  obtain ⟨hc, h⟩ := h
  simp only [Bool.and_eq_true, beq_prop, decide_eq_true_eq, Bool.not_eq_true'] at hc
  obtain ⟨⟨⟨⟨⟨⟨⟨⟨⟨⟨⟨⟨⟨⟨⟨rfl, rfl⟩, rfl⟩, rfl⟩, rfl⟩, rfl⟩, rfl⟩, rfl⟩, rfl⟩, rfl⟩, rfl⟩, rfl⟩, rfl⟩, rfl⟩, rfl⟩, rfl⟩ := hc
  rw [shut_eq] at h
  exact ⟨FUEL, iter_ok (F := fun n v1 v2 v3 v4 v5 => iterK n (codeK Tryd.prog (EVSet) 40 blpVSet_3) (head (EVSet) 3) ⟨[(2, .ptr 66 0 0), (4, .ref 78 0 v1 true 4), (15, .cl (.slg 3 v2)), (16, .cl (.int .i64 v3)), (17, .cl (.int .i64 v4))], [(66, ⟨.var [.cl (.int .i64 0), .nils, .nils], false⟩), (78, ⟨.gen 4 v5, false⟩)]⟩ k) (Q := fun f => f _ _ _ _ _ = some r) rfl (fun n => by kernel_rfl) h⟩
 ·cases h
theorem LVSet_13_ok : LpOk Tryd.prog (EVSet) 40 blpVSet_13 13 LVSet_13 := by
 intro σ k r h
 unfold LVSet_13 at h
 split at h
 ·replace h := cond_some h
  obtain ⟨hc, h⟩ := h
  simp only [Bool.and_eq_true, beq_prop, decide_eq_true_eq, Bool.not_eq_true'] at hc
  obtain ⟨⟨⟨⟨⟨⟨⟨⟨⟨⟨⟨⟨⟨⟨⟨⟨⟨⟨⟨⟨⟨⟨⟨⟨rfl, rfl⟩, rfl⟩, rfl⟩, rfl⟩, rfl⟩, rfl⟩, rfl⟩, rfl⟩, rfl⟩, rfl⟩, rfl⟩, rfl⟩, rfl⟩, rfl⟩, rfl⟩, rfl⟩, rfl⟩, rfl⟩, rfl⟩, rfl⟩, rfl⟩, rfl⟩, rfl⟩, rfl⟩ := hc
  rw [shut_eq] at h
  exact ⟨FUEL, iter_ok (F := fun n v1 v2 v3 v4 v5 v6 => iterK n (codeK Tryd.prog (EVSet) 40 blpVSet_13) (head (EVSet) 13) ⟨[(2, .ptr 66 0 0), (9, .ptr 73 0 0), (40, .ref 78 0 v1 true 4), (41, .cl (.int .i64 v2)), (42, .cl (.int .i64 v3))], [(66, ⟨.var [.cl (.int .i64 0), .nils, .nils], false⟩), (73, ⟨.var [.cl (.int .i64 49), .nils, .ref 115 0 v4 true 3], false⟩), (78, ⟨.gen 4 v5, false⟩), (115, ⟨.gen 3 v6, false⟩)]⟩ k) (Q := fun f => f _ _ _ _ _ _ = some r) rfl (fun n => by kernel_rfl) h⟩
 ·cases h
theorem loopsVSet : ∀ c, Tryd.f12.body = some c -> LoopsOk Tryd.prog (EVSet) 40 c := by
 intro c hc
 cases hc
 exact ⟨trivial, ⟨trivial, ⟨⟨trivial, ⟨⟨trivial, ⟨⟨trivial, trivial, jn_none rfl⟩, ⟨⟨trivial, ⟨trivial, ⟨⟨trivial, ⟨⟨trivial, trivial, jn_none rfl⟩, trivial, jn_none rfl⟩, jn_none rfl⟩, trivial, jn_none rfl⟩, jn_none rfl⟩, jn_none rfl⟩, trivial, jn_none rfl⟩, jn_none rfl⟩, jn_none rfl⟩, lp_some rfl (LVSet_3_ok)⟩, jn_none rfl⟩, ⟨trivial, ⟨trivial, ⟨⟨trivial, ⟨⟨trivial, ⟨⟨trivial, trivial, jn_none rfl⟩, ⟨⟨trivial, trivial, jn_none rfl⟩, trivial, jn_none rfl⟩, jn_none rfl⟩, jn_none rfl⟩, lp_some rfl (LVSet_13_ok)⟩, jn_none rfl⟩, ⟨trivial, trivial, jn_none rfl⟩, jn_none rfl⟩, jn_none rfl⟩, jn_none rfl⟩, jn_none rfl⟩, jn_none rfl⟩, jn_none rfl⟩
noncomputable def gVSet (l : List CV) : Option Out :=
 cond (decide ((0 : Int) <= ((l.length : Nat) : Int))) (
 cond (decide (((l.length : Nat) : Int) <= ((l.length : Nat) : Int))) (
 cond (decide (((l.length : Nat) : Int) * 80 <= LIM)) (
 cond (decide (((l.length : Nat) : Int) <= LIM)) (
 shut (lpVSet_3
 (
  some (.ret [.cl (.agg [.int .i64 0, .sli .u8 [], .slg 3 []]), .cl (.int .i64 1)] []))
 (fun (y1 : Nat) (y2 : List CV) =>
  cond (srtOk y1 y2) (
  let r3 : List CV := vSort y2
  shut (lpVSet_13
  (fun (y4 : Nat) (y5 : List CV) =>
   some (.ret [.cl (.agg [.int .i64 49, .sli .u8 [], .slg 3 y5]), .cl (.int .i64 0)] []))
  FUEL) y1 ((y1 : Nat) : Int) 0 0 r3 []) none)
 FUEL) (Int.toNat ((l.length : Nat) : Int)) l ((l.length : Nat) : Int) 0 (List.replicate (Int.toNat ((l.length : Nat) : Int)) (.agg [.int .i64 0, .sli .u8 [], .slg 3 [], .sli .u8 []]))) none) none) none) none
theorem gVSet_eq (l : List CV) : bodyK Tryd.prog (EVSet) 40 false Tryd.f12 [.cl (.slg 3 l)] [] = gVSet l := by kernel_rfl
end Go.Proofs.YtfkpjbbkdkcdcaaDoorA

namespace Go.Proofs.YtfkpjbbkdkcdcaaDoorA
noncomputable def EVMade : Env := {
 orc := fun g => cond (Nat.beq g 119) (SDFit_) (fun _ _ => Tree.fail)
 pre := fun g => cond (Nat.beq g 119) (preDFit_) (fun _ _ => true)
 byref := fun _ => []
 keep := fun _ => false
 live := fun _ => []
 ren := fun _ => []
 glob := glVal
 nt := 15
 lp := fun _ => none
 xl := fun r => cond (Nat.beq r 0) (some [4, 5]) (none)
}
theorem loopsVMade : ∀ c, Tryd.f104.body = some c -> LoopsOk Tryd.prog (EVMade) 40 c := by
 intro c hc
 cases hc
 exact ⟨trivial, ⟨trivial, ⟨⟨trivial, ⟨⟨trivial, trivial, jn_none rfl⟩, trivial, jn_none rfl⟩, jn_none rfl⟩, ⟨trivial, trivial, jn_none rfl⟩, jn_none rfl⟩, jn_none rfl⟩, jn_none rfl⟩
noncomputable def gVMade (g : Int) (b : List Int) : Option Out :=
 cond (isS ([.int .i64 g, .sli .u8 b, .slg 3 []])) (
 let r1 : Bool := ndFit ([.int .i64 g, .sli .u8 b, .slg 3 []])
 cond (!r1) (
  some (.ret [.cl (.agg [.int .i64 0, .sli .u8 [], .slg 3 []]), .cl (.int .i64 5)] []))
 (
  some (.ret [.cl (.agg [.int .i64 g, .sli .u8 b, .slg 3 []]), .cl (.int .i64 0)] []))) none
theorem gVMade_eq (g : Int) (b : List Int) : bodyK Tryd.prog (EVMade) 40 false Tryd.f104 [.cl (.int .i64 g), .cl (.sli .u8 b)] [] = gVMade g b := by kernel_rfl
end Go.Proofs.YtfkpjbbkdkcdcaaDoorA

namespace Go.Proofs.YtfkpjbbkdkcdcaaDoorA
noncomputable def EVUtf8 : Env := {
 orc := fun g => cond (Nat.beq g 104) (SVMade) (fun _ _ => Tree.fail)
 pre := fun g => cond (Nat.beq g 104) (preVMade) (fun _ _ => true)
 byref := fun _ => []
 keep := fun _ => false
 live := fun _ => []
 ren := fun _ => []
 glob := glVal
 nt := 9
 lp := fun _ => none
 xl := fun r => cond (Nat.beq r 0) (some [2, 3]) (none)
}
theorem loopsVUtf8 : ∀ c, Tryd.f57.body = some c -> LoopsOk Tryd.prog (EVUtf8) 40 c := by
 intro c hc
 cases hc
 exact ⟨trivial, ⟨trivial, trivial, jn_none rfl⟩, jn_none rfl⟩
noncomputable def gVUtf8 (s : ByteArray) : Option Out :=
 cond (madeOk 12 (bytesOf s)) (
 let r1 : Int := (vMade 12 (bytesOf s)).1
 let r2 : List Int := (vMade 12 (bytesOf s)).2.1
 let r3 : List CV := noKids
 let r4 : Int := (vMade 12 (bytesOf s)).2.2
 some (.ret [.cl (.agg [.int .i64 r1, .sli .u8 r2, .slg 3 r3]), .cl (.int .i64 r4)] [])) none
theorem gVUtf8_eq (s : ByteArray) : bodyK Tryd.prog (EVUtf8) 40 false Tryd.f57 [.cl (.str s)] [] = gVUtf8 s := by kernel_rfl
end Go.Proofs.YtfkpjbbkdkcdcaaDoorA

namespace Go.Proofs.YtfkpjbbkdkcdcaaDoorA
noncomputable def EVId : Env := {
 orc := fun g => cond (Nat.beq g 104) (SVMade) (cond (Nat.beq g 106) (SOBytes) (fun _ _ => Tree.fail))
 pre := fun g => cond (Nat.beq g 104) (preVMade) (cond (Nat.beq g 106) (preOBytes) (fun _ _ => true))
 byref := fun _ => []
 keep := fun _ => false
 live := fun _ => []
 ren := fun _ => []
 glob := glVal
 nt := 9
 lp := fun _ => none
 xl := fun r => cond (Nat.beq r 0) (some [2, 3]) (none)
}
theorem loopsVId : ∀ c, Tryd.f59.body = some c -> LoopsOk Tryd.prog (EVId) 40 c := by
 intro c hc
 cases hc
 exact ⟨trivial, ⟨trivial, trivial, jn_none rfl⟩, jn_none rfl⟩
noncomputable def gVId (o : List Int) : Option Out :=
 cond (u32sOk o) (
 let r1 : List Int := oidBytes o
 cond (madeOk 6 r1) (
 let r2 : Int := (vMade 6 r1).1
 let r3 : List Int := (vMade 6 r1).2.1
 let r4 : List CV := noKids
 let r5 : Int := (vMade 6 r1).2.2
 some (.ret [.cl (.agg [.int .i64 r2, .sli .u8 r3, .slg 3 r4]), .cl (.int .i64 r5)] [])) none) none
theorem gVId_eq (o : List Int) : bodyK Tryd.prog (EVId) 40 false Tryd.f59 [.cl (.sli .u32 o)] [] = gVId o := by kernel_rfl
end Go.Proofs.YtfkpjbbkdkcdcaaDoorA

namespace Go.Proofs.YtfkpjbbkdkcdcaaDoorA
noncomputable def EVTime : Env := {
 orc := fun g => cond (Nat.beq g 104) (SVMade) (cond (Nat.beq g 108) (SSText) (fun _ _ => Tree.fail))
 pre := fun g => cond (Nat.beq g 104) (preVMade) (cond (Nat.beq g 108) (preSText) (fun _ _ => true))
 byref := fun _ => []
 keep := fun _ => false
 live := fun _ => []
 ren := fun _ => []
 glob := glVal
 nt := 10
 lp := fun _ => none
 xl := fun r => cond (Nat.beq r 0) (some [2, 3]) (none)
}
theorem loopsVTime : ∀ c, Tryd.f61.body = some c -> LoopsOk Tryd.prog (EVTime) 40 c := by
 intro c hc
 cases hc
 exact ⟨trivial, ⟨trivial, trivial, jn_none rfl⟩, jn_none rfl⟩
noncomputable def gVTime (t : Int) : Option Out :=
 cond (stI64 t) (
 let r1 : ByteArray := stText t
 cond (madeOk 24 (bytesOf r1)) (
 let r2 : Int := (vMade 24 (bytesOf r1)).1
 let r3 : List Int := (vMade 24 (bytesOf r1)).2.1
 let r4 : List CV := noKids
 let r5 : Int := (vMade 24 (bytesOf r1)).2.2
 some (.ret [.cl (.agg [.int .i64 r2, .sli .u8 r3, .slg 3 r4]), .cl (.int .i64 r5)] [])) none) none
theorem gVTime_eq (t : Int) : bodyK Tryd.prog (EVTime) 40 false Tryd.f61 [.cl (.int .i64 t)] [] = gVTime t := by kernel_rfl
end Go.Proofs.YtfkpjbbkdkcdcaaDoorA

namespace Go.Proofs.YtfkpjbbkdkcdcaaDoorA
noncomputable def EVBytes : Env := {
 orc := fun g => cond (Nat.beq g 78) (SSClone) (fun _ _ => Tree.fail)
 pre := fun g => cond (Nat.beq g 78) (preSClone) (fun _ _ => true)
 byref := fun _ => []
 keep := fun _ => false
 live := fun _ => []
 ren := fun _ => []
 glob := glVal
 nt := 6
 lp := fun _ => none
 xl := fun r => cond (Nat.beq r 0) (some [2]) (none)
}
theorem loopsVBytes : ∀ c, Tryd.f64.body = some c -> LoopsOk Tryd.prog (EVBytes) 40 c := by
 intro c hc
 cases hc
 exact ⟨trivial, ⟨trivial, trivial, jn_none rfl⟩, jn_none rfl⟩
noncomputable def gVBytes (b : List Int) : Option Out :=
 cond (lenOk b) (
 some (.ret [.cl (.agg [.int .i64 4, .sli .u8 b, .slg 3 []])] [])) none
theorem gVBytes_eq (b : List Int) : bodyK Tryd.prog (EVBytes) 40 false Tryd.f64 [.cl (.sli .u8 b)] [] = gVBytes b := by kernel_rfl
end Go.Proofs.YtfkpjbbkdkcdcaaDoorA

namespace Go.Proofs.YtfkpjbbkdkcdcaaDoorA
end Go.Proofs.YtfkpjbbkdkcdcaaDoorA

namespace Go.Proofs.YtfkpjbbkdkcdcaaDoorA
noncomputable def EVRMade : Env := {
 orc := fun g => cond (Nat.beq g 111) (SRFits) (fun _ _ => Tree.fail)
 pre := fun g => cond (Nat.beq g 111) (preRFits) (fun _ _ => true)
 byref := fun _ => []
 keep := fun _ => false
 live := fun _ => []
 ren := fun _ => []
 glob := glVal
 nt := 14
 lp := fun _ => none
 xl := fun r => cond (Nat.beq r 0) (some [4, 5]) (none)
}
theorem loopsVRMade : ∀ c, Tryd.f105.body = some c -> LoopsOk Tryd.prog (EVRMade) 40 c := by
 intro c hc
 cases hc
 exact ⟨trivial, ⟨⟨trivial, ⟨⟨trivial, trivial, jn_none rfl⟩, trivial, jn_none rfl⟩, jn_none rfl⟩, ⟨trivial, trivial, jn_none rfl⟩, jn_none rfl⟩, jn_none rfl⟩
noncomputable def gVRMade (g : Int) (b : List Int) : Option Out :=
 cond (bytesOk b) (
 let r1 : Bool := derFits g b
 cond (!r1) (
  some (.ret [.cl (.agg [.int .i64 0, .sli .u8 [], .slg 3 []]), .cl (.int .i64 5)] []))
 (
  some (.ret [.cl (.agg [.int .i64 g, .sli .u8 b, .slg 3 []]), .cl (.int .i64 0)] []))) none
theorem gVRMade_eq (g : Int) (b : List Int) : bodyK Tryd.prog (EVRMade) 40 false Tryd.f105 [.cl (.int .i64 g), .cl (.sli .u8 b)] [] = gVRMade g b := by kernel_rfl
end Go.Proofs.YtfkpjbbkdkcdcaaDoorA

namespace Go.Proofs.YtfkpjbbkdkcdcaaDoorA
noncomputable def EVRUtf8 : Env := {
 orc := fun g => cond (Nat.beq g 105) (SVRMade) (fun _ _ => Tree.fail)
 pre := fun g => cond (Nat.beq g 105) (preVRMade) (fun _ _ => true)
 byref := fun _ => []
 keep := fun _ => false
 live := fun _ => []
 ren := fun _ => []
 glob := glVal
 nt := 9
 lp := fun _ => none
 xl := fun r => cond (Nat.beq r 0) (some [2, 3]) (none)
}
theorem loopsVRUtf8 : ∀ c, Tryd.f58.body = some c -> LoopsOk Tryd.prog (EVRUtf8) 40 c := by
 intro c hc
 cases hc
 exact ⟨trivial, ⟨trivial, trivial, jn_none rfl⟩, jn_none rfl⟩
noncomputable def gVRUtf8 (s : ByteArray) : Option Out :=
 cond (madeOk 12 (bytesOf s)) (
 let r1 : Int := (vMade 12 (bytesOf s)).1
 let r2 : List Int := (vMade 12 (bytesOf s)).2.1
 let r3 : List CV := noKids
 let r4 : Int := (vMade 12 (bytesOf s)).2.2
 some (.ret [.cl (.agg [.int .i64 r1, .sli .u8 r2, .slg 3 r3]), .cl (.int .i64 r4)] [])) none
theorem gVRUtf8_eq (s : ByteArray) : bodyK Tryd.prog (EVRUtf8) 40 false Tryd.f58 [.cl (.str s)] [] = gVRUtf8 s := by kernel_rfl
end Go.Proofs.YtfkpjbbkdkcdcaaDoorA

namespace Go.Proofs.YtfkpjbbkdkcdcaaDoorA
noncomputable def EVRId : Env := {
 orc := fun g => cond (Nat.beq g 105) (SVRMade) (cond (Nat.beq g 107) (SR2Bytes) (fun _ _ => Tree.fail))
 pre := fun g => cond (Nat.beq g 105) (preVRMade) (cond (Nat.beq g 107) (preR2Bytes) (fun _ _ => true))
 byref := fun _ => []
 keep := fun _ => false
 live := fun _ => []
 ren := fun _ => []
 glob := glVal
 nt := 9
 lp := fun _ => none
 xl := fun r => cond (Nat.beq r 0) (some [2, 3]) (none)
}
theorem loopsVRId : ∀ c, Tryd.f60.body = some c -> LoopsOk Tryd.prog (EVRId) 40 c := by
 intro c hc
 cases hc
 exact ⟨trivial, ⟨trivial, trivial, jn_none rfl⟩, jn_none rfl⟩
noncomputable def gVRId (o : List Int) : Option Out :=
 cond (u32sOk o) (
 let r1 : List Int := oidBytes o
 cond (madeOk 6 r1) (
 let r2 : Int := (vMade 6 r1).1
 let r3 : List Int := (vMade 6 r1).2.1
 let r4 : List CV := noKids
 let r5 : Int := (vMade 6 r1).2.2
 some (.ret [.cl (.agg [.int .i64 r2, .sli .u8 r3, .slg 3 r4]), .cl (.int .i64 r5)] [])) none) none
theorem gVRId_eq (o : List Int) : bodyK Tryd.prog (EVRId) 40 false Tryd.f60 [.cl (.sli .u32 o)] [] = gVRId o := by kernel_rfl
end Go.Proofs.YtfkpjbbkdkcdcaaDoorA

namespace Go.Proofs.YtfkpjbbkdkcdcaaDoorA
noncomputable def EVRTime : Env := {
 orc := fun g => cond (Nat.beq g 105) (SVRMade) (cond (Nat.beq g 109) (SRText) (fun _ _ => Tree.fail))
 pre := fun g => cond (Nat.beq g 105) (preVRMade) (cond (Nat.beq g 109) (preRText) (fun _ _ => true))
 byref := fun _ => []
 keep := fun _ => false
 live := fun _ => []
 ren := fun _ => []
 glob := glVal
 nt := 10
 lp := fun _ => none
 xl := fun r => cond (Nat.beq r 0) (some [2, 3]) (none)
}
theorem loopsVRTime : ∀ c, Tryd.f62.body = some c -> LoopsOk Tryd.prog (EVRTime) 40 c := by
 intro c hc
 cases hc
 exact ⟨trivial, ⟨trivial, trivial, jn_none rfl⟩, jn_none rfl⟩
noncomputable def gVRTime (t : Int) : Option Out :=
 cond (stI64 t) (
 let r1 : ByteArray := stText t
 cond (madeOk 24 (bytesOf r1)) (
 let r2 : Int := (vMade 24 (bytesOf r1)).1
 let r3 : List Int := (vMade 24 (bytesOf r1)).2.1
 let r4 : List CV := noKids
 let r5 : Int := (vMade 24 (bytesOf r1)).2.2
 some (.ret [.cl (.agg [.int .i64 r2, .sli .u8 r3, .slg 3 r4]), .cl (.int .i64 r5)] [])) none) none
theorem gVRTime_eq (t : Int) : bodyK Tryd.prog (EVRTime) 40 false Tryd.f62 [.cl (.int .i64 t)] [] = gVRTime t := by kernel_rfl
end Go.Proofs.YtfkpjbbkdkcdcaaDoorA

namespace Go.Proofs.YtfkpjbbkdkcdcaaDoorA
noncomputable def EVRBytes : Env := {
 orc := fun _ => fun _ _ => Tree.fail
 pre := fun _ => fun _ _ => true
 byref := fun _ => []
 keep := fun _ => false
 live := fun _ => []
 ren := fun _ => []
 glob := glVal
 nt := 5
 lp := fun _ => none
 xl := fun r => cond (Nat.beq r 0) (some [2]) (none)
}
theorem loopsVRBytes : ∀ c, Tryd.f65.body = some c -> LoopsOk Tryd.prog (EVRBytes) 40 c := by
 intro c hc
 cases hc
 exact ⟨trivial, ⟨trivial, trivial, jn_none rfl⟩, jn_none rfl⟩
noncomputable def gVRBytes (b : List Int) : Option Out :=
 some (.ret [.cl (.agg [.int .i64 4, .sli .u8 b, .slg 3 []])] [])
theorem gVRBytes_eq (b : List Int) : bodyK Tryd.prog (EVRBytes) 40 false Tryd.f65 [.cl (.sli .u8 b)] [] = gVRBytes b := by kernel_rfl
end Go.Proofs.YtfkpjbbkdkcdcaaDoorA

namespace Go.Proofs.YtfkpjbbkdkcdcaaDoorA
end Go.Proofs.YtfkpjbbkdkcdcaaDoorA

namespace Go.Proofs.YtfkpjbbkdkcdcaaDoorA
end Go.Proofs.YtfkpjbbkdkcdcaaDoorA

namespace Go.Proofs.YtfkpjbbkdkcdcaaDoorA
end Go.Proofs.YtfkpjbbkdkcdcaaDoorA

namespace Go.Proofs.YtfkpjbbkdkcdcaaDoorA
end Go.Proofs.YtfkpjbbkdkcdcaaDoorA

namespace Go.Proofs.YtfkpjbbkdkcdcaaDoorA
end Go.Proofs.YtfkpjbbkdkcdcaaDoorA

namespace Go.Proofs.YtfkpjbbkdkcdcaaDoorA
end Go.Proofs.YtfkpjbbkdkcdcaaDoorA

namespace Go.Proofs.YtfkpjbbkdkcdcaaDoorA
end Go.Proofs.YtfkpjbbkdkcdcaaDoorA

namespace Go.Proofs.YtfkpjbbkdkcdcaaDoorA
end Go.Proofs.YtfkpjbbkdkcdcaaDoorA

namespace Go.Proofs.YtfkpjbbkdkcdcaaDoorA
end Go.Proofs.YtfkpjbbkdkcdcaaDoorA

namespace Go.Proofs.YtfkpjbbkdkcdcaaDoorA
noncomputable def EVAwake : Env := {
 orc := fun g => cond (Nat.beq g 12) (SVSet) (cond (Nat.beq g 14) (SVInt) (cond (Nat.beq g 16) (SRSame) (cond (Nat.beq g 18) (SVIntOf) (cond (Nat.beq g 28) (SR1Same) (cond (Nat.beq g 66) (SVNull) (fun _ _ => Tree.fail))))))
 pre := fun g => cond (Nat.beq g 12) (preVSet) (cond (Nat.beq g 14) (preVInt) (cond (Nat.beq g 16) (preRSame) (cond (Nat.beq g 18) (preVIntOf) (cond (Nat.beq g 28) (preR1Same) (cond (Nat.beq g 66) (preVNull) (fun _ _ => true))))))
 byref := fun _ => []
 keep := fun _ => false
 live := fun _ => []
 ren := fun _ => []
 glob := glVal
 nt := 49
 lp := fun _ => none
 xl := fun r => cond (Nat.beq r 0) (some [0]) (none)
}
theorem loopsVAwake : ∀ c, Tryd.f10.body = some c -> LoopsOk Tryd.prog (EVAwake) 40 c := by
 intro c hc
 cases hc
 exact ⟨trivial, ⟨trivial, ⟨trivial, ⟨trivial, trivial, jn_none rfl⟩, jn_none rfl⟩, jn_none rfl⟩, jn_none rfl⟩
noncomputable def gVAwake  : Option Out :=
 cond (isS [.int .i64 5, .sli .u8 [], .slg 3 []]) (
 let r2 : Int := (vIntOf 5 [] []).2
 cond (stI64 2) (
 let r3 : List Int := vInt 2
 let r4 : List CV := noKids
 cond (stI64 1) (
 let r5 : List Int := vInt 1
 let r6 : List CV := noKids
 cond (setOk ([.agg [.int .i64 2, .sli .u8 r3, .slg 3 r4], .agg [.int .i64 2, .sli .u8 r5, .slg 3 r6]])) (
 let r9 : List CV := (vSet ([.agg [.int .i64 2, .sli .u8 r3, .slg 3 r4], .agg [.int .i64 2, .sli .u8 r5, .slg 3 r6]])).2.1
 let r10 : Int := (vSet ([.agg [.int .i64 2, .sli .u8 r3, .slg 3 r4], .agg [.int .i64 2, .sli .u8 r5, .slg 3 r6]])).2.2
 cond (stI64 128) (
 let r11 : List Int := vInt 128
 cond (lenOk r11) (
 let r13 : Bool := listSame r11 [0, 128]
 cond (r13) (
  cond (stI64 (-1)) (
  let r14 : List Int := vInt (-1)
  cond (lenOk r14) (
  let r16 : Bool := listSame r14 [255]
  cond (r16) (
   cond (decide (r2 = 4)) (
    cond (decide (r10 = 0)) (
     cond (decide (((r9.length : Nat) : Int) = 2)) (
      cond (decide ((0 : Int) < ((r9.length : Nat) : Int))) (
      Option.bind (r9[0]?) fun (e17 : CV) =>
      let e18 : CV := (cell1 e17).headD .nili
      let e19 : CV := (cell1 e17).tail.headD .nili
      let e20 : CV := (cell1 e17).tail.tail.headD .nili
      cond (okInt .i64 e18 && (okSli .u8 e19 && (okSlg 3 e20 && true))) (
      let i21 : Int := cvInt e18
      let l22 : List Int := cvSli e19
      let l23 : List CV := cvSlg e20
      cond (stI64 1) (
      let r24 : List Int := vInt 1
      let r25 : List CV := noKids
      cond (isN [.int .i64 i21, .sli .u8 l22, .slg 3 l23] && isN [.int .i64 2, .sli .u8 r24, .slg 3 r25]) (
      let r26 : Bool := ndSame [.int .i64 i21, .sli .u8 l22, .slg 3 l23] [.int .i64 2, .sli .u8 r24, .slg 3 r25]
      some (.ret [.cl (.bool r26)] [])) none) none) none) none)
     (
      some (.ret [.cl (.bool false)] [])))
    (
     some (.ret [.cl (.bool false)] [])))
   (
    some (.ret [.cl (.bool false)] [])))
  (
   some (.ret [.cl (.bool false)] []))) none) none)
 (
  some (.ret [.cl (.bool false)] []))) none) none) none) none) none) none
theorem gVAwake_eq  : bodyK Tryd.prog (EVAwake) 40 false Tryd.f10 [] [] = gVAwake  := by kernel_rfl
end Go.Proofs.YtfkpjbbkdkcdcaaDoorA

namespace Go.Proofs.YtfkpjbbkdkcdcaaDoorA
end Go.Proofs.YtfkpjbbkdkcdcaaDoorA

namespace Go.Proofs.YtfkpjbbkdkcdcaaDoorA
noncomputable def EVLMakes : Env := {
 orc := fun g => cond (Nat.beq g 10) (SVAwake) (cond (Nat.beq g 14) (SVInt) (cond (Nat.beq g 16) (SRSame) (cond (Nat.beq g 57) (SVUtf8) (cond (Nat.beq g 58) (SVRUtf8) (cond (Nat.beq g 59) (SVId) (cond (Nat.beq g 60) (SVRId) (cond (Nat.beq g 61) (SVTime) (cond (Nat.beq g 62) (SVRTime) (cond (Nat.beq g 63) (SVRInt) (cond (Nat.beq g 64) (SVBytes) (cond (Nat.beq g 65) (SVRBytes) (cond (Nat.beq g 66) (SVNull) (fun _ _ => Tree.fail)))))))))))))
 pre := fun g => cond (Nat.beq g 10) (preVAwake) (cond (Nat.beq g 14) (preVInt) (cond (Nat.beq g 16) (preRSame) (cond (Nat.beq g 57) (preVUtf8) (cond (Nat.beq g 58) (preVRUtf8) (cond (Nat.beq g 59) (preVId) (cond (Nat.beq g 60) (preVRId) (cond (Nat.beq g 61) (preVTime) (cond (Nat.beq g 62) (preVRTime) (cond (Nat.beq g 63) (preVRInt) (cond (Nat.beq g 64) (preVBytes) (cond (Nat.beq g 65) (preVRBytes) (cond (Nat.beq g 66) (preVNull) (fun _ _ => true)))))))))))))
 byref := fun _ => []
 keep := fun _ => false
 live := fun _ => []
 ren := fun _ => []
 glob := glVal
 nt := 112
 lp := fun _ => none
 xl := fun r => cond (Nat.beq r 0) (some [8]) (none)
}
theorem loopsVLMakes : ∀ c, Tryd.f8.body = some c -> LoopsOk Tryd.prog (EVLMakes) 40 c := by
 intro c hc
 cases hc
 exact ⟨trivial, ⟨⟨trivial, ⟨⟨trivial, trivial, jn_none rfl⟩, trivial, jn_none rfl⟩, jn_none rfl⟩, ⟨trivial, ⟨trivial, ⟨trivial, ⟨trivial, ⟨trivial, ⟨trivial, ⟨trivial, trivial, jn_none rfl⟩, jn_none rfl⟩, jn_none rfl⟩, jn_none rfl⟩, jn_none rfl⟩, jn_none rfl⟩, jn_none rfl⟩, jn_none rfl⟩, jn_none rfl⟩
noncomputable def gVLMakes (n : Int) (b : List Int) (o : List Int) (t : Int) : Option Out :=
 cond (decide ((1000 : Int) < ((b.length : Nat) : Int))) (
  let r1 : Bool := true
  some (.ret [.cl (.bool r1)] []))
 (
  cond (decide ((50 : Int) < ((o.length : Nat) : Int))) (
   let r2 : Bool := true
   some (.ret [.cl (.bool r2)] []))
  (
   let s3 : ByteArray := strOf b
   cond (utfOk s3) (
   let r4 : Int := (vMade 12 (bytesOf s3)).1
   let r5 : List Int := (vMade 12 (bytesOf s3)).2.1
   let r6 : List CV := noKids
   let r7 : Int := (vMade 12 (bytesOf s3)).2.2
   let s8 : ByteArray := strOf b
   cond (utfOk s8) (
   let r9 : Int := (vMade 12 (bytesOf s8)).1
   let r10 : List Int := (vMade 12 (bytesOf s8)).2.1
   let r11 : List CV := noKids
   let r12 : Int := (vMade 12 (bytesOf s8)).2.2
   cond (idOk o) (
   let r13 : Int := (vMade 6 (oidBytes o)).1
   let r14 : List Int := (vMade 6 (oidBytes o)).2.1
   let r15 : List CV := noKids
   let r16 : Int := (vMade 6 (oidBytes o)).2.2
   cond (idOk o) (
   let r17 : Int := (vMade 6 (oidBytes o)).1
   let r18 : List Int := (vMade 6 (oidBytes o)).2.1
   let r19 : List CV := noKids
   let r20 : Int := (vMade 6 (oidBytes o)).2.2
   cond (stI64 t) (
   let r21 : Int := (vMade 24 (bytesOf (stText t))).1
   let r22 : List Int := (vMade 24 (bytesOf (stText t))).2.1
   let r23 : List CV := noKids
   let r24 : Int := (vMade 24 (bytesOf (stText t))).2.2
   cond (stI64 t) (
   let r25 : Int := (vMade 24 (bytesOf (stText t))).1
   let r26 : List Int := (vMade 24 (bytesOf (stText t))).2.1
   let r27 : List CV := noKids
   let r28 : Int := (vMade 24 (bytesOf (stText t))).2.2
   cond (stI64 n) (
   let r29 : List Int := vInt n
   let r30 : List CV := noKids
   cond (stI64 n) (
   let r31 : List Int := vInt n
   let r32 : List CV := noKids
   cond (isN [.int .i64 2, .sli .u8 r29, .slg 3 r30] && isN [.int .i64 2, .sli .u8 r31, .slg 3 r32]) (
   let r33 : Bool := ndSame [.int .i64 2, .sli .u8 r29, .slg 3 r30] [.int .i64 2, .sli .u8 r31, .slg 3 r32]
   cond (r33) (
    cond (lenOk b) (
    let r34 : List CV := noKids
    cond (lenOk b) (
    let r35 : List CV := noKids
    cond (isN [.int .i64 4, .sli .u8 b, .slg 3 r34] && isN [.int .i64 4, .sli .u8 b, .slg 3 r35]) (
    let r36 : Bool := ndSame [.int .i64 4, .sli .u8 b, .slg 3 r34] [.int .i64 4, .sli .u8 b, .slg 3 r35]
    cond (r36) (
     cond (isN [.int .i64 r4, .sli .u8 r5, .slg 3 r6] && isN [.int .i64 r9, .sli .u8 r10, .slg 3 r11]) (
     let r37 : Bool := ndSame [.int .i64 r4, .sli .u8 r5, .slg 3 r6] [.int .i64 r9, .sli .u8 r10, .slg 3 r11]
     cond (r37) (
      cond (decide (r7 = r12)) (
       cond (isN [.int .i64 r13, .sli .u8 r14, .slg 3 r15] && isN [.int .i64 r17, .sli .u8 r18, .slg 3 r19]) (
       let r38 : Bool := ndSame [.int .i64 r13, .sli .u8 r14, .slg 3 r15] [.int .i64 r17, .sli .u8 r18, .slg 3 r19]
       cond (r38) (
        cond (decide (r16 = r20)) (
         cond (isN [.int .i64 r21, .sli .u8 r22, .slg 3 r23] && isN [.int .i64 r25, .sli .u8 r26, .slg 3 r27]) (
         let r39 : Bool := ndSame [.int .i64 r21, .sli .u8 r22, .slg 3 r23] [.int .i64 r25, .sli .u8 r26, .slg 3 r27]
         cond (r39) (
          cond (decide (r24 = r28)) (
           cond (isN ([.int .i64 5, .sli .u8 [], .slg 3 []]) && isN ([.int .i64 5, .sli .u8 [], .slg 3 []])) (
           let r40 : Bool := ndSame ([.int .i64 5, .sli .u8 [], .slg 3 []]) ([.int .i64 5, .sli .u8 [], .slg 3 []])
           cond (r40) (
            let r41 : Bool := true
            some (.ret [.cl (.bool r41)] []))
           (
            some (.ret [.cl (.bool false)] []))) none)
          (
           some (.ret [.cl (.bool false)] [])))
         (
          some (.ret [.cl (.bool false)] []))) none)
        (
         some (.ret [.cl (.bool false)] [])))
       (
        some (.ret [.cl (.bool false)] []))) none)
      (
       some (.ret [.cl (.bool false)] [])))
     (
      some (.ret [.cl (.bool false)] []))) none)
    (
     some (.ret [.cl (.bool false)] []))) none) none) none)
   (
    some (.ret [.cl (.bool false)] []))) none) none) none) none) none) none) none) none) none))
theorem gVLMakes_eq (n : Int) (b : List Int) (o : List Int) (t : Int) : bodyK Tryd.prog (EVLMakes) 40 false Tryd.f8 [.cl (.int .i64 n), .cl (.sli .u8 b), .cl (.sli .u32 o), .cl (.int .i64 t)] [] = gVLMakes n b o t := by kernel_rfl
end Go.Proofs.YtfkpjbbkdkcdcaaDoorA

namespace Go.Proofs.YtfkpjbbkdkcdcaaDoorA
end Go.Proofs.YtfkpjbbkdkcdcaaDoorA

namespace Go.Proofs.YtfkpjbbkdkcdcaaDoorA
end Go.Proofs.YtfkpjbbkdkcdcaaDoorA
