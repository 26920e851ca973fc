/-
 What the reading of apostille/der.Bytes comes to, printed by a program. Conditions: none.
-/
import Derived.Test.YtfkpjbbkdkcdcabDoorT1
set_option linter.unusedVariables false
set_option linter.unusedSimpArgs false
set_option maxRecDepth 100000
namespace Go.Proofs.YtfkpjbbkdkcdcabDoorA
noncomputable def EDBytes : Env := {
 orc := fun g => cond (Nat.beq g 57) (SDSize) (cond (Nat.beq g 58) (SDWrite) (fun _ _ => Tree.fail))
 pre := fun g => cond (Nat.beq g 57) (preDSize) (cond (Nat.beq g 58) (preDWrite) (fun _ _ => true))
 byref := fun _ => []
 keep := fun _ => false
 live := fun _ => []
 ren := fun _ => []
 glob := glVal
 nt := 23
 lp := fun _ => none
}
theorem loopsDBytes : ∀ c, Tryd.f41.body = some c -> LoopsOk Tryd.prog (EDBytes) 40 c := by
 intro c hc
 cases hc
 exact ⟨trivial, ⟨⟨trivial, ⟨trivial, ⟨⟨trivial, trivial, jn_none rfl⟩, trivial, jn_none rfl⟩, jn_none rfl⟩, jn_none rfl⟩, ⟨trivial, ⟨⟨trivial, ⟨⟨trivial, trivial, jn_none rfl⟩, trivial, jn_none rfl⟩, jn_none rfl⟩, ⟨trivial, trivial, jn_none rfl⟩, jn_none rfl⟩, jn_none rfl⟩, jn_none rfl⟩, jn_none rfl⟩
noncomputable def gDBytes (ta : Int) (ba : List Int) (ka : List CV) : Option Out :=
 cond (isS [.int .i64 ta, .sli .u8 ba, .slg 3 ka] && deepOk 32) (
 let r1 : Int := ndSize [.int .i64 ta, .sli .u8 ba, .slg 3 ka] 32
 cond (decide (r1 < 0)) (
  some (.ret [.cl (.sli .u8 []), .cl (.int .i64 1)] []))
 (
  cond (decide ((1048576 : Int) < r1)) (
   some (.ret [.cl (.sli .u8 []), .cl (.int .i64 1)] []))
  (
   cond (isW [.int .i64 ta, .sli .u8 ba, .slg 3 ka]) (
   let r2 : List Int := (ndWrite [.int .i64 ta, .sli .u8 ba, .slg 3 ka]).1
   let r3 : Bool := (ndWrite [.int .i64 ta, .sli .u8 ba, .slg 3 ka]).2
   cond (!r3) (
    some (.ret [.cl (.sli .u8 []), .cl (.int .i64 1)] []))
   (
    some (.ret [.cl (.sli .u8 r2), .cl (.int .i64 0)] []))) none))) none
theorem gDBytes_eq (ta : Int) (ba : List Int) (ka : List CV) : bodyK Tryd.prog (EDBytes) 40 false Tryd.f41 [.cl (.agg [.int .i64 ta, .sli .u8 ba, .slg 3 ka])] [] = gDBytes ta ba ka := by kernel_rfl
end Go.Proofs.YtfkpjbbkdkcdcabDoorA

namespace Go.Proofs.YtfkpjbbkdkcdcabDoorA
noncomputable def EDFit_ : Env := {
 orc := fun g => cond (Nat.beq g 41) (SDBytes) (fun _ _ => Tree.fail)
 pre := fun g => cond (Nat.beq g 41) (preDBytes) (fun _ _ => true)
 byref := fun _ => []
 keep := fun _ => false
 live := fun _ => []
 ren := fun _ => []
 glob := glVal
 nt := 12
 lp := fun _ => none
}
theorem loopsDFit_ : ∀ c, Tryd.f45.body = some c -> LoopsOk Tryd.prog (EDFit_) 40 c := by
 intro c hc
 cases hc
 exact ⟨trivial, ⟨trivial, ⟨trivial, trivial, jn_none rfl⟩, jn_none rfl⟩, jn_none rfl⟩
noncomputable def gDFit_ (ta : Int) (ba : List Int) (ka : List CV) : Option Out :=
 cond (isS [.int .i64 ta, .sli .u8 ba, .slg 3 ka]) (
 let r2 : Int := (ndBytes [.int .i64 ta, .sli .u8 ba, .slg 3 ka]).2
 some (.ret [.cl (.bool (decide (r2 = 0)))] [])) none
theorem gDFit__eq (ta : Int) (ba : List Int) (ka : List CV) : bodyK Tryd.prog (EDFit_) 40 false Tryd.f45 [.cl (.agg [.int .i64 ta, .sli .u8 ba, .slg 3 ka])] [] = gDFit_ ta ba ka := by kernel_rfl
end Go.Proofs.YtfkpjbbkdkcdcabDoorA

namespace Go.Proofs.YtfkpjbbkdkcdcabDoorA
noncomputable def lpR2Same_4s (again : (List Int) -> (List Int) -> Int -> Option Out) (k0 : Option Out) (k1 : Option Out) (v1 : List Int) (v2 : List Int) (v3 : Int) : Option Out :=
 cond (decide (v3 < ((v1.length : Nat) : Int))) (
  getK v1 v3 fun e1 =>
  getK v2 v3 fun e2 =>
  cond (!decide (e1 = e2)) (
   k0)
  (
   let x3 : Int := IntKind.i64.wrap (v3 + 1)
   again v1 v2 x3))
 (
  k1)
noncomputable def lpR2Same_4 (k0 : Option Out) (k1 : Option Out) : Nat -> (List Int) -> (List Int) -> Int -> Option Out := iterF (fun a => lpR2Same_4s a k0 k1) (fun _ _ _ => none)
noncomputable def LR2Same_4 : St -> (Ex -> St -> Option Out) -> Option Out := fun σ k => match σ with
 | ⟨[(q1, .cl (.sli .u32 v1)), (q2, .cl (.sli .u32 v2)), (q3, .cl (.int .i64 v3))], []⟩ => cond (Nat.beq q1 0 && Nat.beq q2 1 && Nat.beq q3 5) (shut (lpR2Same_4 (k .ret ⟨[(4, .cl (.bool false))], []⟩) (k (.exit 0) ⟨[], []⟩) FUEL) v1 v2 v3) none
 | _ => none
noncomputable def ER2Same : Env := {
 orc := fun _ => fun _ _ => Tree.fail
 pre := fun _ => fun _ _ => true
 byref := fun _ => []
 keep := fun _ => false
 live := fun r => cond (Nat.beq r 4) ([0, 1, 5]) ([])
 ren := fun _ => []
 glob := glVal
 nt := 26
 lp := fun r => cond (Nat.beq r 4) (some (LR2Same_4)) (none)
 xl := fun r => cond (Nat.beq r 0) (some [4]) (cond (Nat.beq r 1) (some []) (none))
}
noncomputable def blpR2Same_4 : Code := (Cd.fst (Cd.fst (Cd.snd (Cd.fst (Cd.snd (Cd.snd (Tryd.f19.body.getD .skip)))))))
theorem LR2Same_4_ok : LpOk Tryd.prog (ER2Same) 40 blpR2Same_4 4 LR2Same_4 := by
 intro σ k r h
 unfold LR2Same_4 at h
 split at h
 ·replace h := cond_some h
  obtain ⟨hc, h⟩ := h
  simp only [Bool.and_eq_true, beq_prop, decide_eq_true_eq, Bool.not_eq_true'] at hc
  obtain ⟨⟨rfl, rfl⟩, rfl⟩ := hc
  rw [shut_eq] at h
  exact ⟨FUEL, iter_ok (F := fun n v1 v2 v3 => iterK n (codeK Tryd.prog (ER2Same) 40 blpR2Same_4) (head (ER2Same) 4) ⟨[(0, .cl (.sli .u32 v1)), (1, .cl (.sli .u32 v2)), (5, .cl (.int .i64 v3))], []⟩ k) (Q := fun f => f _ _ _ = some r) rfl (fun n => by kernel_rfl) h⟩
 ·cases h
theorem loopsR2Same : ∀ c, Tryd.f19.body = some c -> LoopsOk Tryd.prog (ER2Same) 40 c := by
 intro c hc
 cases hc
 exact ⟨trivial, ⟨⟨trivial, ⟨⟨trivial, trivial, jn_none rfl⟩, trivial, jn_none rfl⟩, jn_none rfl⟩, ⟨⟨trivial, ⟨⟨⟨trivial, ⟨trivial, trivial, jn_none rfl⟩, jn_none rfl⟩, ⟨⟨trivial, ⟨⟨trivial, trivial, jn_none rfl⟩, trivial, jn_none rfl⟩, jn_none rfl⟩, trivial, jn_none rfl⟩, jn_none rfl⟩, lp_some rfl (LR2Same_4_ok)⟩, jn_none rfl⟩, ⟨trivial, trivial, jn_none rfl⟩, jn_none rfl⟩, jn_none rfl⟩, jn_none rfl⟩
noncomputable def gR2Same (a : List Int) (b : List Int) : Option Out :=
 cond (!decide (((a.length : Nat) : Int) = ((b.length : Nat) : Int))) (
  some (.ret [.cl (.bool false)] []))
 (
  shut (lpR2Same_4
  (
   some (.ret [.cl (.bool false)] []))
  (
   some (.ret [.cl (.bool true)] []))
  FUEL) a b 0)
theorem gR2Same_eq (a : List Int) (b : List Int) : bodyK Tryd.prog (ER2Same) 40 false Tryd.f19 [.cl (.sli .u32 a), .cl (.sli .u32 b)] [] = gR2Same a b := by kernel_rfl
end Go.Proofs.YtfkpjbbkdkcdcabDoorA

namespace Go.Proofs.YtfkpjbbkdkcdcabDoorA
noncomputable def jnOPut_2 (k0 : Int -> Int -> Int -> Int -> Int -> Option Out) (k1 : Int -> Int -> Int -> Int -> Option Out) (k2 : Int -> Int -> Int -> Option Out) (k3 : Int -> Int -> Option Out) (k4 : Int -> Option Out) (v1 : Int) : Option Out :=
 let x1 : Int := Int.fdiv v1 (2 ^ 28)
 cond (!decide (x1 = 0)) (
  let x2 : Int := Int.fdiv v1 (2 ^ 28)
  let x3 : Int := IntKind.u8.wrap x2
  let x4 : Int := IntKind.u8.wrap ((BitVec.ofInt 8 x3 ||| BitVec.ofInt 8 128).toNat)
  let x5 : Int := Int.fdiv v1 (2 ^ 21)
  cond (!decide (x5 = 0)) (
   let x6 : Int := Int.fdiv v1 (2 ^ 21)
   let x7 : Int := IntKind.u8.wrap x6
   let x8 : Int := IntKind.u8.wrap ((BitVec.ofInt 8 x7 ||| BitVec.ofInt 8 128).toNat)
   let x9 : Int := Int.fdiv v1 (2 ^ 14)
   cond (!decide (x9 = 0)) (
    let x10 : Int := Int.fdiv v1 (2 ^ 14)
    let x11 : Int := IntKind.u8.wrap x10
    let x12 : Int := IntKind.u8.wrap ((BitVec.ofInt 8 x11 ||| BitVec.ofInt 8 128).toNat)
    let x13 : Int := Int.fdiv v1 (2 ^ 7)
    cond (!decide (x13 = 0)) (
     let x14 : Int := Int.fdiv v1 (2 ^ 7)
     let x15 : Int := IntKind.u8.wrap x14
     let x16 : Int := IntKind.u8.wrap ((BitVec.ofInt 8 x15 ||| BitVec.ofInt 8 128).toNat)
     k0 v1 x4 x8 x12 x16)
    (
     k1 v1 x4 x8 x12))
   (
    let x17 : Int := Int.fdiv v1 (2 ^ 7)
    cond (!decide (x17 = 0)) (
     let x18 : Int := Int.fdiv v1 (2 ^ 7)
     let x19 : Int := IntKind.u8.wrap x18
     let x20 : Int := IntKind.u8.wrap ((BitVec.ofInt 8 x19 ||| BitVec.ofInt 8 128).toNat)
     k1 v1 x4 x8 x20)
    (
     k2 v1 x4 x8)))
  (
   let x21 : Int := Int.fdiv v1 (2 ^ 14)
   cond (!decide (x21 = 0)) (
    let x22 : Int := Int.fdiv v1 (2 ^ 14)
    let x23 : Int := IntKind.u8.wrap x22
    let x24 : Int := IntKind.u8.wrap ((BitVec.ofInt 8 x23 ||| BitVec.ofInt 8 128).toNat)
    let x25 : Int := Int.fdiv v1 (2 ^ 7)
    cond (!decide (x25 = 0)) (
     let x26 : Int := Int.fdiv v1 (2 ^ 7)
     let x27 : Int := IntKind.u8.wrap x26
     let x28 : Int := IntKind.u8.wrap ((BitVec.ofInt 8 x27 ||| BitVec.ofInt 8 128).toNat)
     k1 v1 x4 x24 x28)
    (
     k2 v1 x4 x24))
   (
    let x29 : Int := Int.fdiv v1 (2 ^ 7)
    cond (!decide (x29 = 0)) (
     let x30 : Int := Int.fdiv v1 (2 ^ 7)
     let x31 : Int := IntKind.u8.wrap x30
     let x32 : Int := IntKind.u8.wrap ((BitVec.ofInt 8 x31 ||| BitVec.ofInt 8 128).toNat)
     k2 v1 x4 x32)
    (
     k3 v1 x4))))
 (
  let x33 : Int := Int.fdiv v1 (2 ^ 21)
  cond (!decide (x33 = 0)) (
   let x34 : Int := Int.fdiv v1 (2 ^ 21)
   let x35 : Int := IntKind.u8.wrap x34
   let x36 : Int := IntKind.u8.wrap ((BitVec.ofInt 8 x35 ||| BitVec.ofInt 8 128).toNat)
   let x37 : Int := Int.fdiv v1 (2 ^ 14)
   cond (!decide (x37 = 0)) (
    let x38 : Int := Int.fdiv v1 (2 ^ 14)
    let x39 : Int := IntKind.u8.wrap x38
    let x40 : Int := IntKind.u8.wrap ((BitVec.ofInt 8 x39 ||| BitVec.ofInt 8 128).toNat)
    let x41 : Int := Int.fdiv v1 (2 ^ 7)
    cond (!decide (x41 = 0)) (
     let x42 : Int := Int.fdiv v1 (2 ^ 7)
     let x43 : Int := IntKind.u8.wrap x42
     let x44 : Int := IntKind.u8.wrap ((BitVec.ofInt 8 x43 ||| BitVec.ofInt 8 128).toNat)
     k1 v1 x36 x40 x44)
    (
     k2 v1 x36 x40))
   (
    let x45 : Int := Int.fdiv v1 (2 ^ 7)
    cond (!decide (x45 = 0)) (
     let x46 : Int := Int.fdiv v1 (2 ^ 7)
     let x47 : Int := IntKind.u8.wrap x46
     let x48 : Int := IntKind.u8.wrap ((BitVec.ofInt 8 x47 ||| BitVec.ofInt 8 128).toNat)
     k2 v1 x36 x48)
    (
     k3 v1 x36)))
  (
   let x49 : Int := Int.fdiv v1 (2 ^ 14)
   cond (!decide (x49 = 0)) (
    let x50 : Int := Int.fdiv v1 (2 ^ 14)
    let x51 : Int := IntKind.u8.wrap x50
    let x52 : Int := IntKind.u8.wrap ((BitVec.ofInt 8 x51 ||| BitVec.ofInt 8 128).toNat)
    let x53 : Int := Int.fdiv v1 (2 ^ 7)
    cond (!decide (x53 = 0)) (
     let x54 : Int := Int.fdiv v1 (2 ^ 7)
     let x55 : Int := IntKind.u8.wrap x54
     let x56 : Int := IntKind.u8.wrap ((BitVec.ofInt 8 x55 ||| BitVec.ofInt 8 128).toNat)
     k2 v1 x52 x56)
    (
     k3 v1 x52))
   (
    let x57 : Int := Int.fdiv v1 (2 ^ 7)
    cond (!decide (x57 = 0)) (
     let x58 : Int := Int.fdiv v1 (2 ^ 7)
     let x59 : Int := IntKind.u8.wrap x58
     let x60 : Int := IntKind.u8.wrap ((BitVec.ofInt 8 x59 ||| BitVec.ofInt 8 128).toNat)
     k3 v1 x60)
    (
     k4 v1))))
noncomputable def jnOPut_2_1 (k0 : Nat -> Int -> (List Int) -> Option Out) (k1 : Nat -> Int -> (List Int) -> Option Out) (v1 : Nat) (v2 : Int) (v3 : List Int) : Option Out :=
 let x1 : Int := Int.fdiv v2 (2 ^ 28)
 cond (!decide (x1 = 0)) (
  let x2 : Int := Int.fdiv v2 (2 ^ 28)
  let x3 : Int := IntKind.u8.wrap x2
  let x4 : Int := IntKind.u8.wrap ((BitVec.ofInt 8 x3 ||| BitVec.ofInt 8 128).toNat)
  let l5 : List Int := v3 ++ [x4]
  rmK l5.length 1 <|
  let x6 : Int := Int.fdiv v2 (2 ^ 21)
  cond (!decide (x6 = 0)) (
   let x7 : Int := Int.fdiv v2 (2 ^ 21)
   let x8 : Int := IntKind.u8.wrap x7
   let x9 : Int := IntKind.u8.wrap ((BitVec.ofInt 8 x8 ||| BitVec.ofInt 8 128).toNat)
   let l10 : List Int := l5 ++ [x9]
   rmK l10.length 1 <|
   let x11 : Int := Int.fdiv v2 (2 ^ 14)
   cond (!decide (x11 = 0)) (
    let x12 : Int := Int.fdiv v2 (2 ^ 14)
    let x13 : Int := IntKind.u8.wrap x12
    let x14 : Int := IntKind.u8.wrap ((BitVec.ofInt 8 x13 ||| BitVec.ofInt 8 128).toNat)
    let l15 : List Int := l10 ++ [x14]
    rmK l15.length 1 <|
    let x16 : Int := Int.fdiv v2 (2 ^ 7)
    cond (!decide (x16 = 0)) (
     let x17 : Int := Int.fdiv v2 (2 ^ 7)
     let x18 : Int := IntKind.u8.wrap x17
     let x19 : Int := IntKind.u8.wrap ((BitVec.ofInt 8 x18 ||| BitVec.ofInt 8 128).toNat)
     let l20 : List Int := l15 ++ [x19]
     rmK l20.length 1 <|
     k0 l20.length v2 l20)
    (
     k0 l15.length v2 l15))
   (
    let x21 : Int := Int.fdiv v2 (2 ^ 7)
    cond (!decide (x21 = 0)) (
     let x22 : Int := Int.fdiv v2 (2 ^ 7)
     let x23 : Int := IntKind.u8.wrap x22
     let x24 : Int := IntKind.u8.wrap ((BitVec.ofInt 8 x23 ||| BitVec.ofInt 8 128).toNat)
     let l25 : List Int := l10 ++ [x24]
     rmK l25.length 1 <|
     k0 l25.length v2 l25)
    (
     k0 l10.length v2 l10)))
  (
   let x26 : Int := Int.fdiv v2 (2 ^ 14)
   cond (!decide (x26 = 0)) (
    let x27 : Int := Int.fdiv v2 (2 ^ 14)
    let x28 : Int := IntKind.u8.wrap x27
    let x29 : Int := IntKind.u8.wrap ((BitVec.ofInt 8 x28 ||| BitVec.ofInt 8 128).toNat)
    let l30 : List Int := l5 ++ [x29]
    rmK l30.length 1 <|
    let x31 : Int := Int.fdiv v2 (2 ^ 7)
    cond (!decide (x31 = 0)) (
     let x32 : Int := Int.fdiv v2 (2 ^ 7)
     let x33 : Int := IntKind.u8.wrap x32
     let x34 : Int := IntKind.u8.wrap ((BitVec.ofInt 8 x33 ||| BitVec.ofInt 8 128).toNat)
     let l35 : List Int := l30 ++ [x34]
     rmK l35.length 1 <|
     k0 l35.length v2 l35)
    (
     k0 l30.length v2 l30))
   (
    let x36 : Int := Int.fdiv v2 (2 ^ 7)
    cond (!decide (x36 = 0)) (
     let x37 : Int := Int.fdiv v2 (2 ^ 7)
     let x38 : Int := IntKind.u8.wrap x37
     let x39 : Int := IntKind.u8.wrap ((BitVec.ofInt 8 x38 ||| BitVec.ofInt 8 128).toNat)
     let l40 : List Int := l5 ++ [x39]
     rmK l40.length 1 <|
     k0 l40.length v2 l40)
    (
     k0 l5.length v2 l5))))
 (
  let x41 : Int := Int.fdiv v2 (2 ^ 21)
  cond (!decide (x41 = 0)) (
   let x42 : Int := Int.fdiv v2 (2 ^ 21)
   let x43 : Int := IntKind.u8.wrap x42
   let x44 : Int := IntKind.u8.wrap ((BitVec.ofInt 8 x43 ||| BitVec.ofInt 8 128).toNat)
   let l45 : List Int := v3 ++ [x44]
   rmK l45.length 1 <|
   let x46 : Int := Int.fdiv v2 (2 ^ 14)
   cond (!decide (x46 = 0)) (
    let x47 : Int := Int.fdiv v2 (2 ^ 14)
    let x48 : Int := IntKind.u8.wrap x47
    let x49 : Int := IntKind.u8.wrap ((BitVec.ofInt 8 x48 ||| BitVec.ofInt 8 128).toNat)
    let l50 : List Int := l45 ++ [x49]
    rmK l50.length 1 <|
    let x51 : Int := Int.fdiv v2 (2 ^ 7)
    cond (!decide (x51 = 0)) (
     let x52 : Int := Int.fdiv v2 (2 ^ 7)
     let x53 : Int := IntKind.u8.wrap x52
     let x54 : Int := IntKind.u8.wrap ((BitVec.ofInt 8 x53 ||| BitVec.ofInt 8 128).toNat)
     let l55 : List Int := l50 ++ [x54]
     rmK l55.length 1 <|
     k0 l55.length v2 l55)
    (
     k0 l50.length v2 l50))
   (
    let x56 : Int := Int.fdiv v2 (2 ^ 7)
    cond (!decide (x56 = 0)) (
     let x57 : Int := Int.fdiv v2 (2 ^ 7)
     let x58 : Int := IntKind.u8.wrap x57
     let x59 : Int := IntKind.u8.wrap ((BitVec.ofInt 8 x58 ||| BitVec.ofInt 8 128).toNat)
     let l60 : List Int := l45 ++ [x59]
     rmK l60.length 1 <|
     k0 l60.length v2 l60)
    (
     k0 l45.length v2 l45)))
  (
   let x61 : Int := Int.fdiv v2 (2 ^ 14)
   cond (!decide (x61 = 0)) (
    let x62 : Int := Int.fdiv v2 (2 ^ 14)
    let x63 : Int := IntKind.u8.wrap x62
    let x64 : Int := IntKind.u8.wrap ((BitVec.ofInt 8 x63 ||| BitVec.ofInt 8 128).toNat)
    let l65 : List Int := v3 ++ [x64]
    rmK l65.length 1 <|
    let x66 : Int := Int.fdiv v2 (2 ^ 7)
    cond (!decide (x66 = 0)) (
     let x67 : Int := Int.fdiv v2 (2 ^ 7)
     let x68 : Int := IntKind.u8.wrap x67
     let x69 : Int := IntKind.u8.wrap ((BitVec.ofInt 8 x68 ||| BitVec.ofInt 8 128).toNat)
     let l70 : List Int := l65 ++ [x69]
     rmK l70.length 1 <|
     k0 l70.length v2 l70)
    (
     k0 l65.length v2 l65))
   (
    let x71 : Int := Int.fdiv v2 (2 ^ 7)
    cond (!decide (x71 = 0)) (
     let x72 : Int := Int.fdiv v2 (2 ^ 7)
     let x73 : Int := IntKind.u8.wrap x72
     let x74 : Int := IntKind.u8.wrap ((BitVec.ofInt 8 x73 ||| BitVec.ofInt 8 128).toNat)
     let l75 : List Int := v3 ++ [x74]
     rmK l75.length 1 <|
     k0 l75.length v2 l75)
    (
     k1 v1 v2 v3))))
noncomputable def JOPut_2 : St -> (Ex -> St -> Option Out) -> Option Out := fun σ k => match σ with
 | ⟨[(q1, .nils), (q2, .cl (.int .u32 v1)), (q3, .cl (.int .i64 q4))], []⟩ => cond (Nat.beq q1 0 && Nat.beq q2 1 && Nat.beq q3 5 && decide (q4 = 28)) (shut (jnOPut_2 (fun y1 y2 y3 y4 y5 => k .normal ⟨[(0, .ref 85 0 4 true 1), (1, .cl (.int .u32 y1))], [(85, ⟨.ints .u8 [y2, y3, y4, y5], false⟩)]⟩) (fun y1 y2 y3 y4 => k .normal ⟨[(0, .ref 85 0 3 true 1), (1, .cl (.int .u32 y1))], [(85, ⟨.ints .u8 [y2, y3, y4], false⟩)]⟩) (fun y1 y2 y3 => k .normal ⟨[(0, .ref 85 0 2 true 1), (1, .cl (.int .u32 y1))], [(85, ⟨.ints .u8 [y2, y3], false⟩)]⟩) (fun y1 y2 => k .normal ⟨[(0, .ref 85 0 1 true 1), (1, .cl (.int .u32 y1))], [(85, ⟨.ints .u8 [y2], false⟩)]⟩) (fun y1 => k .normal ⟨[(0, .nils), (1, .cl (.int .u32 y1))], []⟩)) v1) none
 | ⟨[(q1, .ref q2 q3 v1 true q4), (q5, .cl (.int .u32 v2)), (q6, .cl (.int .i64 q7))], [(q8, ⟨.ints .u8 v3, false⟩)]⟩ => cond (Nat.beq q1 0 && Nat.beq q2 0 && Nat.beq q3 0 && Nat.beq q4 1 && Nat.beq q5 1 && Nat.beq q6 5 && decide (q7 = 28) && Nat.beq q8 0) (shut (jnOPut_2_1 (fun y1 y2 y3 => k .normal ⟨[(0, .ref 85 0 y1 true 1), (1, .cl (.int .u32 y2))], [(85, ⟨.ints .u8 y3, false⟩)]⟩) (fun y1 y2 y3 => k .normal ⟨[(0, .ref 0 0 y1 true 1), (1, .cl (.int .u32 y2))], [(0, ⟨.ints .u8 y3, false⟩)]⟩)) v1 v2 v3) none
 | _ => none
noncomputable def EOPut : Env := {
 orc := fun _ => fun _ _ => Tree.fail
 pre := fun _ => fun _ _ => true
 byref := fun _ => []
 keep := fun _ => false
 live := fun r => cond (Nat.beq r 2) ([0, 1, 5]) ([])
 ren := fun _ => []
 glob := glVal
 nt := 28
 lp := fun _ => none
 xl := fun r => cond (Nat.beq r 0) (some [4]) (cond (Nat.beq r 1) (some [0, 1]) (cond (Nat.beq r 1002) (some [0, 1]) (none)))
 jn := fun r => cond (Nat.beq r 2) (some (JOPut_2)) (none)
}
noncomputable def bjnOPut_2 : Code := (Cd.snd (Cd.fst (Cd.snd (Tryd.f50.body.getD .skip))))
theorem JOPut_2_ok : JnOk Tryd.prog (EOPut) 40 bjnOPut_2 2 JOPut_2 := by
 intro σ k r h
 unfold JOPut_2 at h
 split at h
 ·replace h := cond_some h
  obtain ⟨hc, h⟩ := h
  simp only [Bool.and_eq_true, beq_prop, decide_eq_true_eq, Bool.not_eq_true'] at hc
  obtain ⟨⟨⟨rfl, rfl⟩, rfl⟩, rfl⟩ := hc
  rw [shut_eq] at h
  exact Eq.trans (by kernel_rfl) h
 ·replace h := cond_some h
  obtain ⟨hc, h⟩ := h
  simp only [Bool.and_eq_true, beq_prop, decide_eq_true_eq, Bool.not_eq_true'] at hc
  obtain ⟨⟨⟨⟨⟨⟨⟨rfl, rfl⟩, rfl⟩, rfl⟩, rfl⟩, rfl⟩, rfl⟩, rfl⟩ := hc
  rw [shut_eq] at h
  exact Eq.trans (by kernel_rfl) h
 ·cases h
theorem loopsOPut : ∀ c, Tryd.f50.body = some c -> LoopsOk Tryd.prog (EOPut) 40 c := by
 intro c hc
 cases hc
 exact ⟨trivial, ⟨⟨trivial, ⟨⟨⟨trivial, ⟨trivial, trivial, jn_none rfl⟩, jn_none rfl⟩, ⟨⟨trivial, ⟨trivial, trivial, jn_none rfl⟩, jn_none rfl⟩, trivial, jn_none rfl⟩, jn_none rfl⟩, lp_none rfl⟩, jn_some rfl (JOPut_2_ok)⟩, ⟨trivial, trivial, jn_none rfl⟩, jn_none rfl⟩, jn_none rfl⟩
noncomputable def gOPut_0 (n : Int) : Option Out :=
 shut (jnOPut_2
 (fun (y1 : Int) (y2 : Int) (y3 : Int) (y4 : Int) (y5 : Int) =>
  let x6 : Int := IntKind.u8.wrap y1
  let x7 : Int := IntKind.u8.wrap ((BitVec.ofInt 8 x6 &&& ~~~ BitVec.ofInt 8 128).toNat)
  some (.ret [.ref 0 0 5 true 1] [some ⟨.ints .u8 [y2, y3, y4, y5, x7], false⟩]))
 (fun (y8 : Int) (y9 : Int) (y10 : Int) (y11 : Int) =>
  let x12 : Int := IntKind.u8.wrap y8
  let x13 : Int := IntKind.u8.wrap ((BitVec.ofInt 8 x12 &&& ~~~ BitVec.ofInt 8 128).toNat)
  some (.ret [.ref 0 0 4 true 1] [some ⟨.ints .u8 [y9, y10, y11, x13], false⟩]))
 (fun (y14 : Int) (y15 : Int) (y16 : Int) =>
  let x17 : Int := IntKind.u8.wrap y14
  let x18 : Int := IntKind.u8.wrap ((BitVec.ofInt 8 x17 &&& ~~~ BitVec.ofInt 8 128).toNat)
  some (.ret [.ref 0 0 3 true 1] [some ⟨.ints .u8 [y15, y16, x18], false⟩]))
 (fun (y19 : Int) (y20 : Int) =>
  let x21 : Int := IntKind.u8.wrap y19
  let x22 : Int := IntKind.u8.wrap ((BitVec.ofInt 8 x21 &&& ~~~ BitVec.ofInt 8 128).toNat)
  some (.ret [.ref 0 0 2 true 1] [some ⟨.ints .u8 [y20, x22], false⟩]))
 (fun (y23 : Int) =>
  let x24 : Int := IntKind.u8.wrap y23
  let x25 : Int := IntKind.u8.wrap ((BitVec.ofInt 8 x24 &&& ~~~ BitVec.ofInt 8 128).toNat)
  some (.ret [.ref 0 0 1 true 1] [some ⟨.ints .u8 [x25], false⟩]))) n
theorem gOPut_0_eq (n : Int) : bodyK Tryd.prog (EOPut) 40 true Tryd.f50 [.nils, .cl (.int .u32 n)] [] = gOPut_0 n := by kernel_rfl
noncomputable def gOPut_1 (m : Nat) (n : Int) (l : List Int) : Option Out :=
 shut (jnOPut_2_1
 (fun (y1 : Nat) (y2 : Int) (y3 : List Int) =>
  let x4 : Int := IntKind.u8.wrap y2
  let x5 : Int := IntKind.u8.wrap ((BitVec.ofInt 8 x4 &&& ~~~ BitVec.ofInt 8 128).toNat)
  let l6 : List Int := y3 ++ [x5]
  rmK l6.length 1 <|
  some (.ret [.ref 1 0 l6.length true 1] [none, some ⟨.ints .u8 l6, false⟩]))
 (fun (y7 : Nat) (y8 : Int) (y9 : List Int) =>
  let x10 : Int := IntKind.u8.wrap y8
  let x11 : Int := IntKind.u8.wrap ((BitVec.ofInt 8 x10 &&& ~~~ BitVec.ofInt 8 128).toNat)
  let l12 : List Int := y9 ++ [x11]
  rmK l12.length 1 <|
  some (.ret [.ref 1 0 l12.length true 1] [none, some ⟨.ints .u8 l12, false⟩]))) m n l
theorem gOPut_1_eq (m : Nat) (n : Int) (l : List Int) : bodyK Tryd.prog (EOPut) 40 true Tryd.f50 [.ref 0 0 m true 1, .cl (.int .u32 n)] [⟨.ints .u8 l, false⟩] = gOPut_1 m n l := by kernel_rfl
end Go.Proofs.YtfkpjbbkdkcdcabDoorA

namespace Go.Proofs.YtfkpjbbkdkcdcabDoorA
noncomputable def lpOBytes_5s (again : Nat -> (List Int) -> Int -> Int -> (List Int) -> Option Out) (k0 : Nat -> (List Int) -> Option Out) (v1 : Nat) (v2 : List Int) (v3 : Int) (v4 : Int) (v5 : List Int) : Option Out :=
 cond (decide (v4 < v3)) (
  getK v2 v4 fun e9 =>
  cond (u32Ok e9 && lenOk v5) (
  let r10 : Nat := (v5 ++ oidGroups e9).length
  let r11 : List Int := v5 ++ oidGroups e9
  let x12 : Int := IntKind.i64.wrap (v4 + 1)
  again r10 v2 v3 x12 r11) none)
 (
  k0 v1 v5)
noncomputable def lpOBytes_5 (k0 : Nat -> (List Int) -> Option Out) : Nat -> Nat -> (List Int) -> Int -> Int -> (List Int) -> Option Out := iterF (fun a => lpOBytes_5s a k0) (fun _ _ _ _ _ => none)
noncomputable def LOBytes_5 : St -> (Ex -> St -> Option Out) -> Option Out := fun σ k => match σ with
 | ⟨[(q1, .ref q2 q3 v1 true q4), (q5, .cl (.sli .u32 v2)), (q6, .cl (.int .i64 v3)), (q7, .cl (.int .i64 v4))], [(q8, ⟨.ints .u8 v5, false⟩)]⟩ => cond (Nat.beq q1 3 && Nat.beq q2 81 && Nat.beq q3 0 && Nat.beq q4 1 && Nat.beq q5 19 && Nat.beq q6 20 && Nat.beq q7 21 && Nat.beq q8 81) (shut (lpOBytes_5 (fun y1 y2 => k (.exit 0) ⟨[(3, .ref 81 0 y1 true 1)], [(81, ⟨.ints .u8 y2, false⟩)]⟩) FUEL) v1 v2 v3 v4 v5) none
 | _ => none
noncomputable def EOBytes : Env := {
 orc := fun g => cond (Nat.beq g 49) (SOFit) (cond (Nat.beq g 50) (SOPut) (fun _ _ => Tree.fail))
 pre := fun g => cond (Nat.beq g 49) (preOFit) (cond (Nat.beq g 50) (preOPut) (fun _ _ => true))
 byref := fun g => cond (Nat.beq g 50) ([0]) ([])
 keep := fun g => cond (Nat.beq g 50) (true) (false)
 live := fun r => cond (Nat.beq r 5) ([3, 19, 20, 21]) ([])
 ren := fun r => cond (Nat.beq r 5) ([(91, 81)]) ([])
 glob := glVal
 nt := 30
 lp := fun r => cond (Nat.beq r 5) (some (LOBytes_5)) (none)
 xl := fun r => cond (Nat.beq r 0) (some [2]) (cond (Nat.beq r 1) (some [3]) (none))
}
noncomputable def blpOBytes_5 : Code := (Cd.fst (Cd.fst (Cd.snd (Cd.fst (Cd.snd (Cd.snd (Cd.snd (Tryd.f34.body.getD .skip))))))))
theorem LOBytes_5_ok : LpOk Tryd.prog (EOBytes) 40 blpOBytes_5 5 LOBytes_5 := by
 intro σ k r h
 unfold LOBytes_5 at h
 split at h
 ·replace h := cond_some h
  obtain ⟨hc, h⟩ := h
  simp only [Bool.and_eq_true, beq_prop, decide_eq_true_eq, Bool.not_eq_true'] at hc
  obtain ⟨⟨⟨⟨⟨⟨⟨rfl, rfl⟩, rfl⟩, rfl⟩, rfl⟩, rfl⟩, rfl⟩, rfl⟩ := hc
  rw [shut_eq] at h
  exact ⟨FUEL, iter_ok (F := fun n v1 v2 v3 v4 v5 => iterK n (codeK Tryd.prog (EOBytes) 40 blpOBytes_5) (head (EOBytes) 5) ⟨[(3, .ref 81 0 v1 true 1), (19, .cl (.sli .u32 v2)), (20, .cl (.int .i64 v3)), (21, .cl (.int .i64 v4))], [(81, ⟨.ints .u8 v5, false⟩)]⟩ k) (Q := fun f => f _ _ _ _ _ = some r) rfl (fun n => by kernel_rfl) h⟩
 ·cases h
theorem loopsOBytes : ∀ c, Tryd.f34.body = some c -> LoopsOk Tryd.prog (EOBytes) 40 c := by
 intro c hc
 cases hc
 exact ⟨trivial, ⟨⟨trivial, ⟨⟨trivial, trivial, jn_none rfl⟩, trivial, jn_none rfl⟩, jn_none rfl⟩, ⟨trivial, ⟨⟨trivial, ⟨⟨trivial, ⟨⟨trivial, trivial, jn_none rfl⟩, ⟨⟨trivial, trivial, jn_none rfl⟩, trivial, jn_none rfl⟩, jn_none rfl⟩, jn_none rfl⟩, lp_some rfl (LOBytes_5_ok)⟩, jn_none rfl⟩, ⟨trivial, trivial, jn_none rfl⟩, jn_none rfl⟩, jn_none rfl⟩, jn_none rfl⟩, jn_none rfl⟩
noncomputable def gOBytes (o : List Int) : Option Out :=
 let r1 : Bool := oidFit o
 cond (!r1) (
  some (.ret [.cl (.sli .u8 [])] []))
 (
  cond (decide ((0 : Int) < ((o.length : Nat) : Int))) (
  Option.bind (o[0]?) fun (e2 : Int) =>
  let x3 : Int := IntKind.u32.wrap ((40 : Int) * e2)
  cond (decide ((1 : Int) < ((o.length : Nat) : Int))) (
  Option.bind (o[1]?) fun (e4 : Int) =>
  let x5 : Int := IntKind.u32.wrap (x3 + e4)
  cond (u32Ok x5) (
  let r6 : Nat := (oidGroups x5).length
  let r7 : List Int := oidGroups x5
  cond (decide ((2 : Int) <= ((o.length : Nat) : Int))) (
  let l8 : List Int := List.drop 2 o
  shut (lpOBytes_5
  (fun (y9 : Nat) (y10 : List Int) =>
   some (.ret [.cl (.sli .u8 y10)] []))
  FUEL) r6 l8 ((l8.length : Nat) : Int) 0 r7) none) none) none) none)
theorem gOBytes_eq (o : List Int) : bodyK Tryd.prog (EOBytes) 40 false Tryd.f34 [.cl (.sli .u32 o)] [] = gOBytes o := by kernel_rfl
end Go.Proofs.YtfkpjbbkdkcdcabDoorA

namespace Go.Proofs.YtfkpjbbkdkcdcabDoorA
noncomputable def lpVBNum_3s (again : Int -> (List Int) -> Int -> Int -> Option Out) (k0 : Int -> Option Out) (v1 : Int) (v2 : List Int) (v3 : Int) (v4 : Int) : Option Out :=
 cond (decide (v4 < v3)) (
  getK v2 v4 fun e1 =>
  let x2 : Int := IntKind.u64.wrap (v1 * 2 ^ 8)
  let x3 : Int := IntKind.u64.wrap e1
  let x4 : Int := IntKind.u64.wrap ((BitVec.ofInt 64 x2 ||| BitVec.ofInt 64 x3).toNat)
  let x5 : Int := IntKind.i64.wrap (v4 + 1)
  again x4 v2 v3 x5)
 (
  k0 v1)
noncomputable def lpVBNum_3 (k0 : Int -> Option Out) : Nat -> Int -> (List Int) -> Int -> Int -> Option Out := iterF (fun a => lpVBNum_3s a k0) (fun _ _ _ _ => none)
noncomputable def LVBNum_3 : St -> (Ex -> St -> Option Out) -> Option Out := fun σ k => match σ with
 | ⟨[(q1, .cl (.int .u64 v1)), (q2, .cl (.sli .u8 v2)), (q3, .cl (.int .i64 v3)), (q4, .cl (.int .i64 v4))], []⟩ => cond (Nat.beq q1 3 && Nat.beq q2 6 && Nat.beq q3 7 && Nat.beq q4 8) (shut (lpVBNum_3 (fun y1 => k (.exit 0) ⟨[(3, .cl (.int .u64 y1))], []⟩) FUEL) v1 v2 v3 v4) none
 | _ => none
noncomputable def EVBNum : Env := {
 orc := fun _ => fun _ _ => Tree.fail
 pre := fun _ => fun _ _ => true
 byref := fun _ => []
 keep := fun _ => false
 live := fun r => cond (Nat.beq r 3) ([3, 6, 7, 8]) ([])
 ren := fun _ => []
 glob := glVal
 nt := 19
 lp := fun r => cond (Nat.beq r 3) (some (LVBNum_3)) (none)
 xl := fun r => cond (Nat.beq r 0) (some [2]) (cond (Nat.beq r 1) (some [3]) (none))
}
noncomputable def blpVBNum_3 : Code := (Cd.fst (Cd.fst (Cd.snd (Cd.fst (Cd.snd (Cd.snd (Tryd.f46.body.getD .skip)))))))
theorem LVBNum_3_ok : LpOk Tryd.prog (EVBNum) 40 blpVBNum_3 3 LVBNum_3 := by
 intro σ k r h
 unfold LVBNum_3 at h
 split at h
 ·replace h := cond_some h
  obtain ⟨hc, h⟩ := h
  simp only [Bool.and_eq_true, beq_prop, decide_eq_true_eq, Bool.not_eq_true'] at hc
  obtain ⟨⟨⟨rfl, rfl⟩, rfl⟩, rfl⟩ := hc
  rw [shut_eq] at h
  exact ⟨FUEL, iter_ok (F := fun n v1 v2 v3 v4 => iterK n (codeK Tryd.prog (EVBNum) 40 blpVBNum_3) (head (EVBNum) 3) ⟨[(3, .cl (.int .u64 v1)), (6, .cl (.sli .u8 v2)), (7, .cl (.int .i64 v3)), (8, .cl (.int .i64 v4))], []⟩ k) (Q := fun f => f _ _ _ _ = some r) rfl (fun n => by kernel_rfl) h⟩
 ·cases h
theorem loopsVBNum : ∀ c, Tryd.f46.body = some c -> LoopsOk Tryd.prog (EVBNum) 40 c := by
 intro c hc
 cases hc
 exact ⟨trivial, ⟨trivial, ⟨⟨trivial, ⟨⟨trivial, ⟨⟨trivial, trivial, jn_none rfl⟩, ⟨⟨trivial, trivial, jn_none rfl⟩, trivial, jn_none rfl⟩, jn_none rfl⟩, jn_none rfl⟩, lp_some rfl (LVBNum_3_ok)⟩, jn_none rfl⟩, ⟨trivial, trivial, jn_none rfl⟩, jn_none rfl⟩, jn_none rfl⟩, jn_none rfl⟩
noncomputable def gVBNum (b : List Int) : Option Out :=
 shut (lpVBNum_3
 (fun (y1 : Int) =>
  some (.ret [.cl (.int .u64 y1)] []))
 FUEL) 0 b ((b.length : Nat) : Int) 0
theorem gVBNum_eq (b : List Int) : bodyK Tryd.prog (EVBNum) 40 false Tryd.f46 [.cl (.sli .u8 b)] [] = gVBNum b := by kernel_rfl
end Go.Proofs.YtfkpjbbkdkcdcabDoorA

namespace Go.Proofs.YtfkpjbbkdkcdcabDoorA
noncomputable def EVLe : Env := {
 orc := fun _ => fun _ _ => Tree.fail
 pre := fun _ => fun _ _ => true
 byref := fun _ => []
 keep := fun _ => false
 live := fun r => cond (Nat.beq r 5) ([0, 5, 16, 17]) ([])
 ren := fun _ => []
 glob := glVal
 nt := 30
 lp := fun _ => none
 xl := fun r => cond (Nat.beq r 0) (some [4]) (cond (Nat.beq r 1) (some [5]) (none))
}
theorem loopsVLe : ∀ c, Tryd.f47.body = some c -> LoopsOk Tryd.prog (EVLe) 40 c := by
 intro c hc
 cases hc
 exact ⟨trivial, ⟨⟨trivial, ⟨⟨trivial, trivial, jn_none rfl⟩, trivial, jn_none rfl⟩, jn_none rfl⟩, ⟨trivial, ⟨⟨trivial, ⟨⟨trivial, ⟨⟨trivial, trivial, jn_none rfl⟩, ⟨⟨trivial, trivial, jn_none rfl⟩, trivial, jn_none rfl⟩, jn_none rfl⟩, jn_none rfl⟩, lp_none rfl⟩, jn_none rfl⟩, ⟨trivial, trivial, jn_none rfl⟩, jn_none rfl⟩, jn_none rfl⟩, jn_none rfl⟩, jn_none rfl⟩
noncomputable def gVLe (n : Int) : Option Out :=
 let x1 : Int := Int.fdiv n (2 ^ 0)
 let x2 : Int := IntKind.u8.wrap x1
 let x3 : Int := Int.fdiv n (2 ^ 8)
 let x4 : Int := IntKind.u8.wrap x3
 let x5 : Int := Int.fdiv n (2 ^ 16)
 let x6 : Int := IntKind.u8.wrap x5
 let x7 : Int := Int.fdiv n (2 ^ 24)
 let x8 : Int := IntKind.u8.wrap x7
 let x9 : Int := Int.fdiv n (2 ^ 32)
 let x10 : Int := IntKind.u8.wrap x9
 let x11 : Int := Int.fdiv n (2 ^ 40)
 let x12 : Int := IntKind.u8.wrap x11
 let x13 : Int := Int.fdiv n (2 ^ 48)
 let x14 : Int := IntKind.u8.wrap x13
 let x15 : Int := Int.fdiv n (2 ^ 56)
 let x16 : Int := IntKind.u8.wrap x15
 some (.ret [.ref 0 0 8 true 1] [some ⟨.ints .u8 [x2, x4, x6, x8, x10, x12, x14, x16], false⟩])
theorem gVLe_eq (n : Int) : bodyK Tryd.prog (EVLe) 40 true Tryd.f47 [.cl (.int .u64 n), .cl (.int .i64 8)] [] = gVLe n := by kernel_rfl
end Go.Proofs.YtfkpjbbkdkcdcabDoorA

namespace Go.Proofs.YtfkpjbbkdkcdcabDoorA
noncomputable def EVReverse : Env := {
 orc := fun _ => fun _ _ => Tree.fail
 pre := fun _ => fun _ _ => true
 byref := fun _ => []
 keep := fun _ => false
 live := fun r => cond (Nat.beq r 1) ([0, 2, 3]) ([])
 ren := fun _ => []
 glob := glVal
 nt := 28
 lp := fun _ => none
 xl := fun r => cond (Nat.beq r 0) (some []) (cond (Nat.beq r 1) (some []) (none))
}
theorem loopsVReverse : ∀ c, Tryd.f48.body = some c -> LoopsOk Tryd.prog (EVReverse) 40 c := by
 intro c hc
 cases hc
 exact ⟨trivial, ⟨⟨⟨trivial, ⟨trivial, trivial, jn_none rfl⟩, jn_none rfl⟩, ⟨trivial, trivial, jn_none rfl⟩, jn_none rfl⟩, lp_none rfl⟩, jn_none rfl⟩
noncomputable def gVReverse (l : List Int) : Option Out :=
 Option.bind (l[7]?) fun (e1 : Int) =>
 Option.bind (l[0]?) fun (e2 : Int) =>
 let l3 : List Int := l.set 0 e1
 let l4 : List Int := l3.set 7 e2
 Option.bind (l4[6]?) fun (e5 : Int) =>
 Option.bind (l4[1]?) fun (e6 : Int) =>
 let l7 : List Int := l4.set 1 e5
 let l8 : List Int := l7.set 6 e6
 Option.bind (l8[5]?) fun (e9 : Int) =>
 Option.bind (l8[2]?) fun (e10 : Int) =>
 let l11 : List Int := l8.set 2 e9
 let l12 : List Int := l11.set 5 e10
 Option.bind (l12[4]?) fun (e13 : Int) =>
 Option.bind (l12[3]?) fun (e14 : Int) =>
 let l15 : List Int := l12.set 3 e13
 let l16 : List Int := l15.set 4 e14
 some (.ret [] [some ⟨.ints .u8 l16, false⟩])
theorem gVReverse_eq (l : List Int) : bodyK Tryd.prog (EVReverse) 40 false Tryd.f48 [.ref 0 0 8 true 1] [⟨.ints .u8 l, false⟩] = gVReverse l := by kernel_rfl
end Go.Proofs.YtfkpjbbkdkcdcabDoorA

namespace Go.Proofs.YtfkpjbbkdkcdcabDoorA
noncomputable def EVBe : Env := {
 orc := fun g => cond (Nat.beq g 47) (SVLe) (cond (Nat.beq g 48) (SVReverse) (fun _ _ => Tree.fail))
 pre := fun g => cond (Nat.beq g 47) (preVLe) (cond (Nat.beq g 48) (preVReverse) (fun _ _ => true))
 byref := fun g => cond (Nat.beq g 48) ([0]) ([])
 keep := fun g => cond (Nat.beq g 47) (true) (false)
 live := fun _ => []
 ren := fun _ => []
 glob := glVal
 nt := 12
 lp := fun _ => none
 xl := fun r => cond (Nat.beq r 0) (some [4]) (none)
}
theorem loopsVBe : ∀ c, Tryd.f27.body = some c -> LoopsOk Tryd.prog (EVBe) 40 c := by
 intro c hc
 cases hc
 exact ⟨trivial, ⟨trivial, ⟨trivial, ⟨trivial, trivial, jn_none rfl⟩, jn_none rfl⟩, jn_none rfl⟩, jn_none rfl⟩
noncomputable def gVBe (n : Int) : Option Out :=
 cond (u64Ok n) (
 let r1 : List Int := vLe n
 cond (revOk r1) (
 let r2 : List Int := vRev r1
 some (.ret [.cl (.sli .u8 r2)] [])) none) none
theorem gVBe_eq (n : Int) : bodyK Tryd.prog (EVBe) 40 false Tryd.f27 [.cl (.int .u64 n), .cl (.int .i64 8)] [] = gVBe n := by kernel_rfl
end Go.Proofs.YtfkpjbbkdkcdcabDoorA

namespace Go.Proofs.YtfkpjbbkdkcdcabDoorA
noncomputable def lpVInt_2s (again : (List Int) -> Option Out) (k0 : (List Int) -> Option Out) (v1 : List Int) : Option Out :=
 cond (decide ((1 : Int) < ((v1.length : Nat) : Int))) (
  cond (decide ((0 : Int) < ((v1.length : Nat) : Int))) (
  Option.bind (v1[0]?) fun (e3 : Int) =>
  cond (decide (e3 = 0)) (
   cond (decide ((1 : Int) < ((v1.length : Nat) : Int))) (
   Option.bind (v1[1]?) fun (e4 : Int) =>
   cond (decide (e4 < 128)) (
    cond (decide ((1 : Int) <= ((v1.length : Nat) : Int))) (
    let l5 : List Int := List.drop 1 v1
    again l5) none)
   (
    cond (decide ((0 : Int) < ((v1.length : Nat) : Int))) (
    Option.bind (v1[0]?) fun (e6 : Int) =>
    cond (decide (e6 = 255)) (
     cond (decide ((1 : Int) < ((v1.length : Nat) : Int))) (
     Option.bind (v1[1]?) fun (e7 : Int) =>
     cond (decide ((128 : Int) <= e7)) (
      cond (decide ((1 : Int) <= ((v1.length : Nat) : Int))) (
      let l8 : List Int := List.drop 1 v1
      again l8) none)
     (
      k0 v1)) none)
    (
     k0 v1)) none)) none)
  (
   cond (decide ((0 : Int) < ((v1.length : Nat) : Int))) (
   Option.bind (v1[0]?) fun (e9 : Int) =>
   cond (decide (e9 = 255)) (
    cond (decide ((1 : Int) < ((v1.length : Nat) : Int))) (
    Option.bind (v1[1]?) fun (e10 : Int) =>
    cond (decide ((128 : Int) <= e10)) (
     cond (decide ((1 : Int) <= ((v1.length : Nat) : Int))) (
     let l11 : List Int := List.drop 1 v1
     again l11) none)
    (
     k0 v1)) none)
   (
    k0 v1)) none)) none)
 (
  k0 v1)
noncomputable def lpVInt_2 (k0 : (List Int) -> Option Out) : Nat -> (List Int) -> Option Out := iterF (fun a => lpVInt_2s a k0) (fun _ => none)
noncomputable def LVInt_2 : St -> (Ex -> St -> Option Out) -> Option Out := fun σ k => match σ with
 | ⟨[(q1, .ptr q2 q3 q4), (q5, .cl (.sli .u8 v1))], [(q6, ⟨.var [.cl (.int .i64 q7), .nils, .nils], false⟩)]⟩ => cond (Nat.beq q1 2 && Nat.beq q2 66 && Nat.beq q3 0 && Nat.beq q4 0 && Nat.beq q5 3 && Nat.beq q6 66 && decide (q7 = 0)) (shut (lpVInt_2 (fun y1 => k (.exit 0) ⟨[(2, .ptr 66 0 0), (3, .cl (.sli .u8 y1))], [(66, ⟨.var [.cl (.int .i64 0), .nils, .nils], false⟩)]⟩) FUEL) v1) none
 | _ => none
noncomputable def EVInt : Env := {
 orc := fun g => cond (Nat.beq g 27) (SVBe) (fun _ _ => Tree.fail)
 pre := fun g => cond (Nat.beq g 27) (preVBe) (fun _ _ => true)
 byref := fun _ => []
 keep := fun _ => false
 live := fun r => cond (Nat.beq r 2) ([2, 3]) ([])
 ren := fun _ => []
 glob := glVal
 nt := 38
 lp := fun r => cond (Nat.beq r 2) (some (LVInt_2)) (none)
 xl := fun r => cond (Nat.beq r 0) (some [2]) (cond (Nat.beq r 1) (some [2, 3]) (none))
}
noncomputable def blpVInt_2 : Code := (Cd.fst (Cd.fst (Cd.fst (Cd.snd (Cd.snd (Tryd.f7.body.getD .skip))))))
theorem LVInt_2_ok : LpOk Tryd.prog (EVInt) 40 blpVInt_2 2 LVInt_2 := by
 intro σ k r h
 unfold LVInt_2 at h
 split at h
 ·replace h := cond_some h
  obtain ⟨hc, h⟩ := h
  simp only [Bool.and_eq_true, beq_prop, decide_eq_true_eq, Bool.not_eq_true'] at hc
  obtain ⟨⟨⟨⟨⟨⟨rfl, rfl⟩, rfl⟩, rfl⟩, rfl⟩, rfl⟩, rfl⟩ := hc
  rw [shut_eq] at h
  exact ⟨FUEL, iter_ok (F := fun n v1 => iterK n (codeK Tryd.prog (EVInt) 40 blpVInt_2) (head (EVInt) 2) ⟨[(2, .ptr 66 0 0), (3, .cl (.sli .u8 v1))], [(66, ⟨.var [.cl (.int .i64 0), .nils, .nils], false⟩)]⟩ k) (Q := fun f => f _ = some r) rfl (fun n => by kernel_rfl) h⟩
 ·cases h
theorem loopsVInt : ∀ c, Tryd.f7.body = some c -> LoopsOk Tryd.prog (EVInt) 40 c := by
 intro c hc
 cases hc
 exact ⟨trivial, ⟨trivial, ⟨⟨⟨⟨trivial, ⟨trivial, trivial, jn_none rfl⟩, jn_none rfl⟩, trivial, jn_none rfl⟩, lp_some rfl (LVInt_2_ok)⟩, ⟨trivial, trivial, jn_none rfl⟩, jn_none rfl⟩, jn_none rfl⟩, jn_none rfl⟩
noncomputable def gVInt (n : Int) : Option Out :=
 let x1 : Int := IntKind.u64.wrap n
 cond (u64Ok x1) (
 let r2 : List Int := vBe x1
 shut (lpVInt_2
 (fun (y3 : List Int) =>
  some (.ret [.cl (.agg [.int .i64 2, .sli .u8 y3, .slg 3 []])] []))
 FUEL) r2) none
theorem gVInt_eq (n : Int) : bodyK Tryd.prog (EVInt) 40 false Tryd.f7 [.cl (.int .i64 n)] [] = gVInt n := by kernel_rfl
end Go.Proofs.YtfkpjbbkdkcdcabDoorA

namespace Go.Proofs.YtfkpjbbkdkcdcabDoorA
noncomputable def EVNull : Env := {
 orc := fun _ => fun _ _ => Tree.fail
 pre := fun _ => fun _ _ => true
 byref := fun _ => []
 keep := fun _ => false
 live := fun _ => []
 ren := fun _ => []
 glob := glVal
 nt := 2
 lp := fun _ => none
 xl := fun r => cond (Nat.beq r 0) (some [0]) (none)
}
theorem loopsVNull : ∀ c, Tryd.f23.body = some c -> LoopsOk Tryd.prog (EVNull) 40 c := by
 intro c hc
 cases hc
 exact ⟨trivial, ⟨trivial, trivial, jn_none rfl⟩, jn_none rfl⟩
noncomputable def gVNull  : Option Out :=
 some (.ret [.cl (.agg [.int .i64 5, .sli .u8 [], .slg 3 []])] [])
theorem gVNull_eq  : bodyK Tryd.prog (EVNull) 40 false Tryd.f23 [] [] = gVNull  := by kernel_rfl
end Go.Proofs.YtfkpjbbkdkcdcabDoorA

namespace Go.Proofs.YtfkpjbbkdkcdcabDoorA
noncomputable def EVSmall : Env := {
 orc := fun g => cond (Nat.beq g 40) (SRSmall) (fun _ _ => Tree.fail)
 pre := fun g => cond (Nat.beq g 40) (preRSmall) (fun _ _ => true)
 byref := fun _ => []
 keep := fun _ => false
 live := fun _ => []
 ren := fun _ => []
 glob := glVal
 nt := 6
 lp := fun _ => none
 xl := fun r => cond (Nat.beq r 0) (some [2]) (none)
}
theorem loopsVSmall : ∀ c, Tryd.f22.body = some c -> LoopsOk Tryd.prog (EVSmall) 40 c := by
 intro c hc
 cases hc
 exact ⟨trivial, ⟨trivial, trivial, jn_none rfl⟩, jn_none rfl⟩
noncomputable def gVSmall (t : Int) (b : List Int) (k : List CV) : Option Out :=
 cond (isT [.int .i64 t, .sli .u8 b, .slg 3 k] && leftOk 2000) (
 let r1 : Int := ndSmall [.int .i64 t, .sli .u8 b, .slg 3 k] 2000
 some (.ret [.cl (.bool (decide ((0 : Int) <= r1)))] [])) none
theorem gVSmall_eq (t : Int) (b : List Int) (k : List CV) : bodyK Tryd.prog (EVSmall) 40 false Tryd.f22 [.cl (.agg [.int .i64 t, .sli .u8 b, .slg 3 k])] [] = gVSmall t b k := by kernel_rfl
end Go.Proofs.YtfkpjbbkdkcdcabDoorA

namespace Go.Proofs.YtfkpjbbkdkcdcabDoorA
noncomputable def EVNumber : Env := {
 orc := fun g => cond (Nat.beq g 46) (SVBNum) (fun _ _ => Tree.fail)
 pre := fun g => cond (Nat.beq g 46) (preVBNum) (fun _ _ => true)
 byref := fun _ => []
 keep := fun _ => false
 live := fun _ => []
 ren := fun _ => []
 glob := glVal
 nt := 19
 lp := fun _ => none
 xl := fun r => cond (Nat.beq r 0) (some [2, 3]) (none)
}
theorem loopsVNumber : ∀ c, Tryd.f26.body = some c -> LoopsOk Tryd.prog (EVNumber) 40 c := by
 intro c hc
 cases hc
 exact ⟨trivial, ⟨⟨trivial, ⟨⟨trivial, trivial, jn_none rfl⟩, trivial, jn_none rfl⟩, jn_none rfl⟩, ⟨trivial, ⟨trivial, trivial, jn_none rfl⟩, jn_none rfl⟩, jn_none rfl⟩, jn_none rfl⟩
noncomputable def gVNumber (b : List Int) : Option Out :=
 cond (decide ((8 : Int) < ((b.length : Nat) : Int))) (
  some (.ret [.cl (.int .i64 0), .cl (.int .i64 8)] []))
 (
  let x1 : Int := IntKind.i64.wrap ((8 : Int) * ((b.length : Nat) : Int))
  let x2 : Int := IntKind.i64.wrap ((64 : Int) - x1)
  cond (num8 b) (
  let r3 : Int := bytesNum b
  cond (decide (x2 < 0)) none (
  let x4 : Int := IntKind.u64.wrap (r3 * 2 ^ (min x2.toNat 64))
  let x5 : Int := IntKind.i64.wrap x4
  cond (decide (x2 < 0)) none (
  let x6 : Int := Int.fdiv x5 (2 ^ (min x2.toNat 64))
  some (.ret [.cl (.int .i64 x6), .cl (.int .i64 0)] [])))) none)
theorem gVNumber_eq (b : List Int) : bodyK Tryd.prog (EVNumber) 40 false Tryd.f26 [.cl (.sli .u8 b)] [] = gVNumber b := by kernel_rfl
end Go.Proofs.YtfkpjbbkdkcdcabDoorA

namespace Go.Proofs.YtfkpjbbkdkcdcabDoorA
noncomputable def EVUtf1 : Env := {
 orc := fun _ => fun _ _ => Tree.fail
 pre := fun _ => fun _ _ => true
 byref := fun _ => []
 keep := fun _ => false
 live := fun _ => []
 ren := fun _ => []
 glob := glVal
 nt := 6
 lp := fun _ => none
 xl := fun r => cond (Nat.beq r 0) (some [2, 3]) (none)
}
theorem loopsVUtf1 : ∀ c, Tryd.f33.body = some c -> LoopsOk Tryd.prog (EVUtf1) 40 c := by
 intro c hc
 cases hc
 exact ⟨trivial, ⟨trivial, trivial, jn_none rfl⟩, jn_none rfl⟩
noncomputable def gVUtf1 (b : List Int) : Option Out :=
 let s1 : ByteArray := strOf b
 some (.ret [.cl (.str s1), .cl (.int .i64 0)] [])
theorem gVUtf1_eq (b : List Int) : bodyK Tryd.prog (EVUtf1) 40 false Tryd.f33 [.cl (.sli .u8 b)] [] = gVUtf1 b := by kernel_rfl
end Go.Proofs.YtfkpjbbkdkcdcabDoorA

namespace Go.Proofs.YtfkpjbbkdkcdcabDoorA
noncomputable def EVTime1 : Env := {
 orc := fun g => cond (Nat.beq g 39) (SSRead) (fun _ _ => Tree.fail)
 pre := fun g => cond (Nat.beq g 39) (preSRead) (fun _ _ => true)
 byref := fun _ => []
 keep := fun _ => false
 live := fun _ => []
 ren := fun _ => []
 glob := glVal
 nt := 9
 lp := fun _ => none
 xl := fun r => cond (Nat.beq r 0) (some [2, 3]) (none)
}
theorem loopsVTime1 : ∀ c, Tryd.f38.body = some c -> LoopsOk Tryd.prog (EVTime1) 40 c := by
 intro c hc
 cases hc
 exact ⟨trivial, ⟨trivial, trivial, jn_none rfl⟩, jn_none rfl⟩
noncomputable def gVTime1 (b : List Int) : Option Out :=
 let s1 : ByteArray := strOf b
 let r2 : Int := (stRead s1).1
 let r3 : Int := (stRead s1).2
 some (.ret [.cl (.int .i64 r2), .cl (.int .i64 r3)] [])
theorem gVTime1_eq (b : List Int) : bodyK Tryd.prog (EVTime1) 40 false Tryd.f38 [.cl (.sli .u8 b)] [] = gVTime1 b := by kernel_rfl
end Go.Proofs.YtfkpjbbkdkcdcabDoorA

namespace Go.Proofs.YtfkpjbbkdkcdcabDoorA
noncomputable def EVToldI : Env := {
 orc := fun g => cond (Nat.beq g 26) (SVNumber) (cond (Nat.beq g 38) (SVTime1) (cond (Nat.beq g 45) (SDFit_) (fun _ _ => Tree.fail)))
 pre := fun g => cond (Nat.beq g 26) (preVNumber) (cond (Nat.beq g 38) (preVTime1) (cond (Nat.beq g 45) (preDFit_) (fun _ _ => true)))
 byref := fun _ => []
 keep := fun _ => false
 live := fun _ => []
 ren := fun _ => []
 glob := glVal
 nt := 35
 lp := fun _ => none
 xl := fun r => cond (Nat.beq r 0) (some [6, 7]) (none)
}
theorem loopsVToldI : ∀ c, Tryd.f25.body = some c -> LoopsOk Tryd.prog (EVToldI) 40 c := by
 intro c hc
 cases hc
 exact ⟨trivial, ⟨trivial, ⟨⟨trivial, ⟨⟨trivial, trivial, jn_none rfl⟩, ⟨trivial, ⟨⟨trivial, trivial, jn_none rfl⟩, trivial, jn_none rfl⟩, jn_none rfl⟩, jn_none rfl⟩, jn_none rfl⟩, ⟨trivial, trivial, jn_none rfl⟩, jn_none rfl⟩, jn_none rfl⟩, jn_none rfl⟩
noncomputable def gVToldI_0 (t : Int) (b : List Int) (k : List CV) : Option Out :=
 cond (!decide (t = 2)) (
  some (.ret [.cl (.int .i64 0), .cl (.int .i64 4)] []))
 (
  cond (decide ((0 : Int) < ((k.length : Nat) : Int))) (
   some (.ret [.cl (.int .i64 0), .cl (.int .i64 5)] []))
  (
   cond (isS ([.int .i64 2, .sli .u8 b, .slg 3 []])) (
   let r1 : Bool := ndFit ([.int .i64 2, .sli .u8 b, .slg 3 []])
   cond (!r1) (
    some (.ret [.cl (.int .i64 0), .cl (.int .i64 5)] []))
   (
    cond (bytesOk b) (
    let r2 : Int := (vNumber b).1
    let r3 : Int := (vNumber b).2
    some (.ret [.cl (.int .i64 r2), .cl (.int .i64 r3)] [])) none)) none))
theorem gVToldI_0_eq (t : Int) (b : List Int) (k : List CV) : bodyK Tryd.prog (EVToldI) 40 false Tryd.f25 [.cl (.agg [.int .i64 t, .sli .u8 b, .slg 3 k]), .cl (.int .i64 2), .cl (.fn (.func 26) [] [])] [] = gVToldI_0 t b k := by kernel_rfl
noncomputable def gVToldI_1 (t : Int) (b : List Int) (k : List CV) : Option Out :=
 cond (!decide (t = 24)) (
  some (.ret [.cl (.int .i64 0), .cl (.int .i64 4)] []))
 (
  cond (decide ((0 : Int) < ((k.length : Nat) : Int))) (
   some (.ret [.cl (.int .i64 0), .cl (.int .i64 5)] []))
  (
   cond (isS ([.int .i64 24, .sli .u8 b, .slg 3 []])) (
   let r1 : Bool := ndFit ([.int .i64 24, .sli .u8 b, .slg 3 []])
   cond (!r1) (
    some (.ret [.cl (.int .i64 0), .cl (.int .i64 5)] []))
   (
    let r2 : Int := (stRead (strOf b)).1
    let r3 : Int := (stRead (strOf b)).2
    some (.ret [.cl (.int .i64 r2), .cl (.int .i64 r3)] []))) none))
theorem gVToldI_1_eq (t : Int) (b : List Int) (k : List CV) : bodyK Tryd.prog (EVToldI) 40 false Tryd.f25 [.cl (.agg [.int .i64 t, .sli .u8 b, .slg 3 k]), .cl (.int .i64 24), .cl (.fn (.func 38) [] [])] [] = gVToldI_1 t b k := by kernel_rfl
end Go.Proofs.YtfkpjbbkdkcdcabDoorA

namespace Go.Proofs.YtfkpjbbkdkcdcabDoorA
noncomputable def EVToldS : Env := {
 orc := fun g => cond (Nat.beq g 33) (SVUtf1) (cond (Nat.beq g 45) (SDFit_) (fun _ _ => Tree.fail))
 pre := fun g => cond (Nat.beq g 33) (preVUtf1) (cond (Nat.beq g 45) (preDFit_) (fun _ _ => true))
 byref := fun _ => []
 keep := fun _ => false
 live := fun _ => []
 ren := fun _ => []
 glob := glVal
 nt := 35
 lp := fun _ => none
 xl := fun r => cond (Nat.beq r 0) (some [6, 7]) (none)
}
theorem loopsVToldS : ∀ c, Tryd.f32.body = some c -> LoopsOk Tryd.prog (EVToldS) 40 c := by
 intro c hc
 cases hc
 exact ⟨trivial, ⟨trivial, ⟨⟨trivial, ⟨⟨trivial, trivial, jn_none rfl⟩, ⟨trivial, ⟨⟨trivial, trivial, jn_none rfl⟩, trivial, jn_none rfl⟩, jn_none rfl⟩, jn_none rfl⟩, jn_none rfl⟩, ⟨trivial, trivial, jn_none rfl⟩, jn_none rfl⟩, jn_none rfl⟩, jn_none rfl⟩
noncomputable def gVToldS (t : Int) (b : List Int) (k : List CV) : Option Out :=
 cond (!decide (t = 12)) (
  some (.ret [.cl (.str (⟨#[]⟩ : ByteArray)), .cl (.int .i64 4)] []))
 (
  cond (decide ((0 : Int) < ((k.length : Nat) : Int))) (
   some (.ret [.cl (.str (⟨#[]⟩ : ByteArray)), .cl (.int .i64 5)] []))
  (
   cond (isS ([.int .i64 12, .sli .u8 b, .slg 3 []])) (
   let r1 : Bool := ndFit ([.int .i64 12, .sli .u8 b, .slg 3 []])
   cond (!r1) (
    some (.ret [.cl (.str (⟨#[]⟩ : ByteArray)), .cl (.int .i64 5)] []))
   (
    let r2 : ByteArray := strOf b
    some (.ret [.cl (.str r2), .cl (.int .i64 0)] []))) none))
theorem gVToldS_eq (t : Int) (b : List Int) (k : List CV) : bodyK Tryd.prog (EVToldS) 40 false Tryd.f32 [.cl (.agg [.int .i64 t, .sli .u8 b, .slg 3 k]), .cl (.int .i64 12), .cl (.fn (.func 33) [] [])] [] = gVToldS t b k := by kernel_rfl
end Go.Proofs.YtfkpjbbkdkcdcabDoorA

namespace Go.Proofs.YtfkpjbbkdkcdcabDoorA
noncomputable def EVToldO : Env := {
 orc := fun g => cond (Nat.beq g 36) (SOParse) (cond (Nat.beq g 45) (SDFit_) (fun _ _ => Tree.fail))
 pre := fun g => cond (Nat.beq g 36) (preOParse) (cond (Nat.beq g 45) (preDFit_) (fun _ _ => true))
 byref := fun _ => []
 keep := fun _ => false
 live := fun _ => []
 ren := fun _ => []
 glob := glVal
 nt := 35
 lp := fun _ => none
 xl := fun r => cond (Nat.beq r 0) (some [6, 7]) (none)
}
theorem loopsVToldO : ∀ c, Tryd.f35.body = some c -> LoopsOk Tryd.prog (EVToldO) 40 c := by
 intro c hc
 cases hc
 exact ⟨trivial, ⟨trivial, ⟨⟨trivial, ⟨⟨trivial, trivial, jn_none rfl⟩, ⟨trivial, ⟨⟨trivial, trivial, jn_none rfl⟩, trivial, jn_none rfl⟩, jn_none rfl⟩, jn_none rfl⟩, jn_none rfl⟩, ⟨trivial, trivial, jn_none rfl⟩, jn_none rfl⟩, jn_none rfl⟩, jn_none rfl⟩
noncomputable def gVToldO (t : Int) (b : List Int) (k : List CV) : Option Out :=
 cond (!decide (t = 6)) (
  some (.ret [.cl (.sli .u32 []), .cl (.int .i64 4)] []))
 (
  cond (decide ((0 : Int) < ((k.length : Nat) : Int))) (
   some (.ret [.cl (.sli .u32 []), .cl (.int .i64 5)] []))
  (
   cond (isS ([.int .i64 6, .sli .u8 b, .slg 3 []])) (
   let r1 : Bool := ndFit ([.int .i64 6, .sli .u8 b, .slg 3 []])
   cond (!r1) (
    some (.ret [.cl (.sli .u32 []), .cl (.int .i64 5)] []))
   (
    cond (bytesOk b) (
    let r2 : List Int := (oidParse b).1
    let r3 : Int := (oidParse b).2
    some (.ret [.cl (.sli .u32 r2), .cl (.int .i64 r3)] [])) none)) none))
theorem gVToldO_eq (t : Int) (b : List Int) (k : List CV) : bodyK Tryd.prog (EVToldO) 40 false Tryd.f35 [.cl (.agg [.int .i64 t, .sli .u8 b, .slg 3 k]), .cl (.int .i64 6), .cl (.fn (.func 36) [] [])] [] = gVToldO t b k := by kernel_rfl
end Go.Proofs.YtfkpjbbkdkcdcabDoorA

namespace Go.Proofs.YtfkpjbbkdkcdcabDoorA
noncomputable def EVIntOf : Env := {
 orc := fun g => cond (Nat.beq g 25) (SVToldI) (cond (Nat.beq g 26) (SVNumber) (fun _ _ => Tree.fail))
 pre := fun g => cond (Nat.beq g 25) (preVToldI) (cond (Nat.beq g 26) (preVNumber) (fun _ _ => true))
 byref := fun _ => []
 keep := fun _ => false
 live := fun _ => []
 ren := fun _ => []
 glob := glVal
 nt := 8
 lp := fun _ => none
 xl := fun r => cond (Nat.beq r 0) (some [2, 3]) (none)
}
theorem loopsVIntOf : ∀ c, Tryd.f6.body = some c -> LoopsOk Tryd.prog (EVIntOf) 40 c := by
 intro c hc
 cases hc
 exact ⟨trivial, ⟨trivial, trivial, jn_none rfl⟩, jn_none rfl⟩
noncomputable def gVIntOf (t : Int) (b : List Int) (k : List CV) : Option Out :=
 cond (isS [.int .i64 t, .sli .u8 b, .slg 3 k]) (
 let r1 : Int := (vIntOf t b k).1
 let r2 : Int := (vIntOf t b k).2
 some (.ret [.cl (.int .i64 r1), .cl (.int .i64 r2)] [])) none
theorem gVIntOf_eq (t : Int) (b : List Int) (k : List CV) : bodyK Tryd.prog (EVIntOf) 40 false Tryd.f6 [.cl (.agg [.int .i64 t, .sli .u8 b, .slg 3 k])] [] = gVIntOf t b k := by kernel_rfl
end Go.Proofs.YtfkpjbbkdkcdcabDoorA

namespace Go.Proofs.YtfkpjbbkdkcdcabDoorA
noncomputable def EVBytesOf : Env := {
 orc := fun g => cond (Nat.beq g 28) (SSClone) (fun _ _ => Tree.fail)
 pre := fun g => cond (Nat.beq g 28) (preSClone) (fun _ _ => true)
 byref := fun _ => []
 keep := fun _ => false
 live := fun _ => []
 ren := fun _ => []
 glob := glVal
 nt := 16
 lp := fun _ => none
 xl := fun r => cond (Nat.beq r 0) (some [2, 3]) (none)
}
theorem loopsVBytesOf : ∀ c, Tryd.f8.body = some c -> LoopsOk Tryd.prog (EVBytesOf) 40 c := by
 intro c hc
 cases hc
 exact ⟨trivial, ⟨⟨trivial, ⟨⟨trivial, trivial, jn_none rfl⟩, ⟨trivial, ⟨⟨trivial, trivial, jn_none rfl⟩, trivial, jn_none rfl⟩, jn_none rfl⟩, jn_none rfl⟩, jn_none rfl⟩, ⟨trivial, trivial, jn_none rfl⟩, jn_none rfl⟩, jn_none rfl⟩
noncomputable def gVBytesOf (t : Int) (b : List Int) (k : List CV) : Option Out :=
 cond (!decide (t = 4)) (
  some (.ret [.cl (.sli .u8 []), .cl (.int .i64 4)] []))
 (
  cond (decide ((0 : Int) < ((k.length : Nat) : Int))) (
   some (.ret [.cl (.sli .u8 []), .cl (.int .i64 5)] []))
  (
   cond (lenOk b) (
   some (.ret [.cl (.sli .u8 b), .cl (.int .i64 0)] [])) none))
theorem gVBytesOf_eq (t : Int) (b : List Int) (k : List CV) : bodyK Tryd.prog (EVBytesOf) 40 false Tryd.f8 [.cl (.agg [.int .i64 t, .sli .u8 b, .slg 3 k])] [] = gVBytesOf t b k := by kernel_rfl
end Go.Proofs.YtfkpjbbkdkcdcabDoorA

namespace Go.Proofs.YtfkpjbbkdkcdcabDoorA
noncomputable def EVUtf8Of : Env := {
 orc := fun g => cond (Nat.beq g 32) (SVToldS) (cond (Nat.beq g 33) (SVUtf1) (fun _ _ => Tree.fail))
 pre := fun g => cond (Nat.beq g 32) (preVToldS) (cond (Nat.beq g 33) (preVUtf1) (fun _ _ => true))
 byref := fun _ => []
 keep := fun _ => false
 live := fun _ => []
 ren := fun _ => []
 glob := glVal
 nt := 8
 lp := fun _ => none
 xl := fun r => cond (Nat.beq r 0) (some [2, 3]) (none)
}
theorem loopsVUtf8Of : ∀ c, Tryd.f16.body = some c -> LoopsOk Tryd.prog (EVUtf8Of) 40 c := by
 intro c hc
 cases hc
 exact ⟨trivial, ⟨trivial, trivial, jn_none rfl⟩, jn_none rfl⟩
noncomputable def gVUtf8Of (t : Int) (b : List Int) (k : List CV) : Option Out :=
 cond (isS [.int .i64 t, .sli .u8 b, .slg 3 k]) (
 let r1 : ByteArray := (vUtfOf t b k).1
 let r2 : Int := (vUtfOf t b k).2
 some (.ret [.cl (.str r1), .cl (.int .i64 r2)] [])) none
theorem gVUtf8Of_eq (t : Int) (b : List Int) (k : List CV) : bodyK Tryd.prog (EVUtf8Of) 40 false Tryd.f16 [.cl (.agg [.int .i64 t, .sli .u8 b, .slg 3 k])] [] = gVUtf8Of t b k := by kernel_rfl
end Go.Proofs.YtfkpjbbkdkcdcabDoorA

namespace Go.Proofs.YtfkpjbbkdkcdcabDoorA
noncomputable def EVIdOf : Env := {
 orc := fun g => cond (Nat.beq g 35) (SVToldO) (cond (Nat.beq g 36) (SOParse) (fun _ _ => Tree.fail))
 pre := fun g => cond (Nat.beq g 35) (preVToldO) (cond (Nat.beq g 36) (preOParse) (fun _ _ => true))
 byref := fun _ => []
 keep := fun _ => false
 live := fun _ => []
 ren := fun _ => []
 glob := glVal
 nt := 8
 lp := fun _ => none
 xl := fun r => cond (Nat.beq r 0) (some [2, 3]) (none)
}
theorem loopsVIdOf : ∀ c, Tryd.f18.body = some c -> LoopsOk Tryd.prog (EVIdOf) 40 c := by
 intro c hc
 cases hc
 exact ⟨trivial, ⟨trivial, trivial, jn_none rfl⟩, jn_none rfl⟩
noncomputable def gVIdOf (t : Int) (b : List Int) (k : List CV) : Option Out :=
 cond (isS [.int .i64 t, .sli .u8 b, .slg 3 k]) (
 let r1 : List Int := (vIdOf t b k).1
 let r2 : Int := (vIdOf t b k).2
 some (.ret [.cl (.sli .u32 r1), .cl (.int .i64 r2)] [])) none
theorem gVIdOf_eq (t : Int) (b : List Int) (k : List CV) : bodyK Tryd.prog (EVIdOf) 40 false Tryd.f18 [.cl (.agg [.int .i64 t, .sli .u8 b, .slg 3 k])] [] = gVIdOf t b k := by kernel_rfl
end Go.Proofs.YtfkpjbbkdkcdcabDoorA

namespace Go.Proofs.YtfkpjbbkdkcdcabDoorA
noncomputable def EVTimeOf : Env := {
 orc := fun g => cond (Nat.beq g 25) (SVToldI) (cond (Nat.beq g 38) (SVTime1) (fun _ _ => Tree.fail))
 pre := fun g => cond (Nat.beq g 25) (preVToldI) (cond (Nat.beq g 38) (preVTime1) (fun _ _ => true))
 byref := fun _ => []
 keep := fun _ => false
 live := fun _ => []
 ren := fun _ => []
 glob := glVal
 nt := 8
 lp := fun _ => none
 xl := fun r => cond (Nat.beq r 0) (some [2, 3]) (none)
}
theorem loopsVTimeOf : ∀ c, Tryd.f21.body = some c -> LoopsOk Tryd.prog (EVTimeOf) 40 c := by
 intro c hc
 cases hc
 exact ⟨trivial, ⟨trivial, trivial, jn_none rfl⟩, jn_none rfl⟩
noncomputable def gVTimeOf (t : Int) (b : List Int) (k : List CV) : Option Out :=
 cond (isS [.int .i64 t, .sli .u8 b, .slg 3 k]) (
 let r1 : Int := (vTimeOf t b k).1
 let r2 : Int := (vTimeOf t b k).2
 some (.ret [.cl (.int .i64 r1), .cl (.int .i64 r2)] [])) none
theorem gVTimeOf_eq (t : Int) (b : List Int) (k : List CV) : bodyK Tryd.prog (EVTimeOf) 40 false Tryd.f21 [.cl (.agg [.int .i64 t, .sli .u8 b, .slg 3 k])] [] = gVTimeOf t b k := by kernel_rfl
end Go.Proofs.YtfkpjbbkdkcdcabDoorA

namespace Go.Proofs.YtfkpjbbkdkcdcabDoorA
noncomputable def EVCmp : Env := {
 orc := fun g => cond (Nat.beq g 44) (SBCompare) (fun _ _ => Tree.fail)
 pre := fun g => cond (Nat.beq g 44) (preBCompare) (fun _ _ => true)
 byref := fun _ => []
 keep := fun _ => false
 live := fun _ => []
 ren := fun _ => []
 glob := glVal
 nt := 10
 lp := fun _ => none
 xl := fun r => cond (Nat.beq r 0) (some [4]) (none)
}
theorem loopsVCmp : ∀ c, Tryd.f43.body = some c -> LoopsOk Tryd.prog (EVCmp) 40 c := by
 intro c hc
 cases hc
 exact ⟨trivial, ⟨trivial, trivial, jn_none rfl⟩, jn_none rfl⟩
noncomputable def gVCmp (ta : Int) (ba : List Int) (ka : List CV) (wa : List Int) (tb : Int) (bb : List Int) (kb : List CV) (wb : List Int) : Option Out :=
 cond (bytesOk wa && bytesOk wb) (
 let r1 : Int := listCmp wa wb
 some (.ret [.cl (.int .i64 r1)] [])) none
theorem gVCmp_eq (ta : Int) (ba : List Int) (ka : List CV) (wa : List Int) (tb : Int) (bb : List Int) (kb : List CV) (wb : List Int) : bodyK Tryd.prog (EVCmp) 40 false Tryd.f43 [.cl (.agg [.int .i64 ta, .sli .u8 ba, .slg 3 ka, .sli .u8 wa]), .cl (.agg [.int .i64 tb, .sli .u8 bb, .slg 3 kb, .sli .u8 wb])] [] = gVCmp ta ba ka wa tb bb kb wb := by kernel_rfl
end Go.Proofs.YtfkpjbbkdkcdcabDoorA

namespace Go.Proofs.YtfkpjbbkdkcdcabDoorA
noncomputable def lpVInsert_4s (again : Nat -> Int -> Int -> Int -> Int -> (List CV) -> Option Out) (k0 : Nat -> Int -> Int -> Int -> (List CV) -> Option Out) (v1 : Nat) (v2 : Int) (v3 : Int) (v4 : Int) (v5 : Int) (v6 : List CV) : Option Out :=
 cond (decide (v2 < v5)) (
  idxK v5 v1 fun _ =>
  Option.bind (v6[(0 + (Int.toNat v5))]?) fun (e2 : CV) =>
  let e3 : CV := (cell1 e2).headD .nili
  let e4 : CV := (cell1 e2).tail.headD .nili
  let e5 : CV := (cell1 e2).tail.tail.headD .nili
  let e6 : CV := (cell1 e2).tail.tail.tail.headD .nili
  cond (okInt .i64 e3 && (okSli .u8 e4 && (okSlg 3 e5 && (okSli .u8 e6 && true)))) (
  let l10 : List Int := cvSli e6
  let x11 : Int := IntKind.i64.wrap (v5 - 1)
  idxK x11 v1 fun _ =>
  Option.bind (v6[(0 + (Int.toNat x11))]?) fun (e12 : CV) =>
  let e13 : CV := (cell1 e12).headD .nili
  let e14 : CV := (cell1 e12).tail.headD .nili
  let e15 : CV := (cell1 e12).tail.tail.headD .nili
  let e16 : CV := (cell1 e12).tail.tail.tail.headD .nili
  cond (okInt .i64 e13 && (okSli .u8 e14 && (okSlg 3 e15 && (okSli .u8 e16 && true)))) (
  let l20 : List Int := cvSli e16
  cond (bytesOk l10 && bytesOk l20) (
  let r21 : Int := listCmp l10 l20
  cond (decide (r21 < 0)) (
   let x22 : Int := IntKind.i64.wrap (v5 - 1)
   let x23 : Int := IntKind.i64.wrap (v5 - 1)
   idxK x23 v1 fun _ =>
   Option.bind (v6[(0 + (Int.toNat x23))]?) fun (e24 : CV) =>
   let e25 : CV := (cell1 e24).headD .nili
   let e26 : CV := (cell1 e24).tail.headD .nili
   let e27 : CV := (cell1 e24).tail.tail.headD .nili
   let e28 : CV := (cell1 e24).tail.tail.tail.headD .nili
   cond (okInt .i64 e25 && (okSli .u8 e26 && (okSlg 3 e27 && (okSli .u8 e28 && true)))) (
   let i29 : Int := cvInt e25
   let l30 : List Int := cvSli e26
   let l31 : List CV := cvSlg e27
   let l32 : List Int := cvSli e28
   idxK v5 v1 fun _ =>
   Option.bind (v6[(0 + (Int.toNat v5))]?) fun (e33 : CV) =>
   let e34 : CV := (cell1 e33).headD .nili
   let e35 : CV := (cell1 e33).tail.headD .nili
   let e36 : CV := (cell1 e33).tail.tail.headD .nili
   let e37 : CV := (cell1 e33).tail.tail.tail.headD .nili
   cond (okInt .i64 e34 && (okSli .u8 e35 && (okSlg 3 e36 && (okSli .u8 e37 && true)))) (
   let i38 : Int := cvInt e34
   let l39 : List Int := cvSli e35
   let l40 : List CV := cvSlg e36
   let l41 : List Int := cvSli e37
   idxK v5 v1 fun _ =>
   let l42 : List CV := v6.set (0 + (Int.toNat v5)) (.agg [.int .i64 i29, .sli .u8 l30, .slg 3 l31, .sli .u8 l32])
   idxK x22 v1 fun _ =>
   let l43 : List CV := l42.set (0 + (Int.toNat x22)) (.agg [.int .i64 i38, .sli .u8 l39, .slg 3 l40, .sli .u8 l41])
   let x44 : Int := IntKind.i64.wrap (v5 - 1)
   again v1 v2 v3 v4 x44 l43) none) none)
  (
   k0 v1 v2 v3 v4 v6)) none) none) none)
 (
  k0 v1 v2 v3 v4 v6)
noncomputable def lpVInsert_4 (k0 : Nat -> Int -> Int -> Int -> (List CV) -> Option Out) : Nat -> Nat -> Int -> Int -> Int -> Int -> (List CV) -> Option Out := iterF (fun a => lpVInsert_4s a k0) (fun _ _ _ _ _ _ => none)
noncomputable def lpVInsert_1s (again : Nat -> Int -> Int -> Int -> (List CV) -> Option Out) (k0 : (List CV) -> Option Out) (v1 : Nat) (v2 : Int) (v3 : Int) (v4 : Int) (v5 : List CV) : Option Out :=
 cond (decide (v4 < v3)) (
  shut (lpVInsert_4
  (fun (y2 : Nat) (y3 : Int) (y4 : Int) (y5 : Int) (y6 : List CV) =>
   let x7 : Int := IntKind.i64.wrap (y5 + 1)
   again y2 y3 y4 x7 y6)
  FUEL) v1 v2 v3 v4 v4 v5)
 (
  k0 v5)
noncomputable def lpVInsert_1 (k0 : (List CV) -> Option Out) : Nat -> Nat -> Int -> Int -> Int -> (List CV) -> Option Out := iterF (fun a => lpVInsert_1s a k0) (fun _ _ _ _ _ => none)
noncomputable def LVInsert_4 : St -> (Ex -> St -> Option Out) -> Option Out := fun σ k => match σ with
 | ⟨[(q1, .ref q2 q3 v1 true q4), (q5, .cl (.int .i64 v2)), (q6, .cl (.int .i64 v3)), (q7, .cl (.fn (.func q8) [] [])), (q9, .cl (.int .i64 v4)), (q10, .cl (.int .i64 v5))], [(q11, ⟨.gen q12 v6, false⟩)]⟩ => cond (Nat.beq q1 0 && Nat.beq q2 0 && Nat.beq q3 0 && Nat.beq q4 4 && Nat.beq q5 1 && Nat.beq q6 2 && Nat.beq q7 3 && Nat.beq q8 43 && Nat.beq q9 8 && Nat.beq q10 9 && Nat.beq q11 0 && Nat.beq q12 4) (shut (lpVInsert_4 (fun y1 y2 y3 y4 y5 => k (.exit 2) ⟨[(0, .ref 0 0 y1 true 4), (1, .cl (.int .i64 y2)), (2, .cl (.int .i64 y3)), (3, .cl (.fn (.func 43) [] [])), (8, .cl (.int .i64 y4))], [(0, ⟨.gen 4 y5, false⟩)]⟩) FUEL) v1 v2 v3 v4 v5 v6) none
 | _ => none
noncomputable def LVInsert_1 : St -> (Ex -> St -> Option Out) -> Option Out := fun σ k => match σ with
 | ⟨[(q1, .ref q2 q3 v1 true q4), (q5, .cl (.int .i64 v2)), (q6, .cl (.int .i64 v3)), (q7, .cl (.fn (.func q8) [] [])), (q9, .cl (.int .i64 v4))], [(q10, ⟨.gen q11 v5, false⟩)]⟩ => cond (Nat.beq q1 0 && Nat.beq q2 0 && Nat.beq q3 0 && Nat.beq q4 4 && Nat.beq q5 1 && Nat.beq q6 2 && Nat.beq q7 3 && Nat.beq q8 43 && Nat.beq q9 8 && Nat.beq q10 0 && Nat.beq q11 4) (shut (lpVInsert_1 (fun y1 => k (.exit 0) ⟨[], [(0, ⟨.gen 4 y1, false⟩)]⟩) FUEL) v1 v2 v3 v4 v5) none
 | _ => none
noncomputable def EVInsert : Env := {
 orc := fun g => cond (Nat.beq g 43) (SVCmp) (fun _ _ => Tree.fail)
 pre := fun g => cond (Nat.beq g 43) (preVCmp) (fun _ _ => true)
 byref := fun _ => []
 keep := fun _ => false
 live := fun r => cond (Nat.beq r 1) ([0, 1, 2, 3, 8]) (cond (Nat.beq r 4) ([0, 1, 2, 3, 8, 9]) ([]))
 ren := fun _ => []
 glob := glVal
 nt := 53
 lp := fun r => cond (Nat.beq r 1) (some (LVInsert_1)) (cond (Nat.beq r 4) (some (LVInsert_4)) (none))
 xl := fun r => cond (Nat.beq r 0) (some []) (cond (Nat.beq r 1) (some []) (cond (Nat.beq r 3) (some [0, 1, 2, 3, 8]) (none)))
}
noncomputable def blpVInsert_4 : Code := (Cd.fst (Cd.fst (Cd.snd (Cd.fst (Cd.fst (Cd.snd (Cd.fst (Cd.fst (Cd.snd (Tryd.f70.body.getD .skip))))))))))
noncomputable def blpVInsert_1 : Code := (Cd.fst (Cd.fst (Cd.snd (Tryd.f70.body.getD .skip))))
theorem LVInsert_4_ok : LpOk Tryd.prog (EVInsert) 40 blpVInsert_4 4 LVInsert_4 := by
 intro σ k r h
 unfold LVInsert_4 at h
 split at h
 ·replace h := cond_some h
  obtain ⟨hc, h⟩ := h
  simp only [Bool.and_eq_true, beq_prop, decide_eq_true_eq, Bool.not_eq_true'] at hc
  obtain ⟨⟨⟨⟨⟨⟨⟨⟨⟨⟨⟨rfl, rfl⟩, rfl⟩, rfl⟩, rfl⟩, rfl⟩, rfl⟩, rfl⟩, rfl⟩, rfl⟩, rfl⟩, rfl⟩ := hc
  rw [shut_eq] at h
  exact ⟨FUEL, iter_ok (F := fun n v1 v2 v3 v4 v5 v6 => iterK n (codeK Tryd.prog (EVInsert) 40 blpVInsert_4) (head (EVInsert) 4) ⟨[(0, .ref 0 0 v1 true 4), (1, .cl (.int .i64 v2)), (2, .cl (.int .i64 v3)), (3, .cl (.fn (.func 43) [] [])), (8, .cl (.int .i64 v4)), (9, .cl (.int .i64 v5))], [(0, ⟨.gen 4 v6, false⟩)]⟩ k) (Q := fun f => f _ _ _ _ _ _ = some r) rfl (fun n => by kernel_rfl) h⟩
 ·cases h
theorem LVInsert_1_ok : LpOk Tryd.prog (EVInsert) 40 blpVInsert_1 1 LVInsert_1 := by
 intro σ k r h
 unfold LVInsert_1 at h
 split at h
 ·replace h := cond_some h
  obtain ⟨hc, h⟩ := h
  simp only [Bool.and_eq_true, beq_prop, decide_eq_true_eq, Bool.not_eq_true'] at hc
  obtain ⟨⟨⟨⟨⟨⟨⟨⟨⟨⟨rfl, rfl⟩, rfl⟩, rfl⟩, rfl⟩, rfl⟩, rfl⟩, rfl⟩, rfl⟩, rfl⟩, rfl⟩ := hc
  rw [shut_eq] at h
  exact ⟨FUEL, iter_ok (F := fun n v1 v2 v3 v4 v5 => iterK n (codeK Tryd.prog (EVInsert) 40 blpVInsert_1) (head (EVInsert) 1) ⟨[(0, .ref 0 0 v1 true 4), (1, .cl (.int .i64 v2)), (2, .cl (.int .i64 v3)), (3, .cl (.fn (.func 43) [] [])), (8, .cl (.int .i64 v4))], [(0, ⟨.gen 4 v5, false⟩)]⟩ k) (Q := fun f => f _ _ _ _ _ = some r) rfl (fun n => by kernel_rfl) h⟩
 ·cases h
theorem loopsVInsert : ∀ c, Tryd.f70.body = some c -> LoopsOk Tryd.prog (EVInsert) 40 c := by
 intro c hc
 cases hc
 exact ⟨trivial, ⟨⟨⟨trivial, ⟨trivial, trivial, jn_none rfl⟩, jn_none rfl⟩, ⟨⟨trivial, ⟨⟨⟨trivial, ⟨trivial, trivial, jn_none rfl⟩, jn_none rfl⟩, ⟨trivial, trivial, jn_none rfl⟩, jn_none rfl⟩, lp_some rfl (LVInsert_4_ok)⟩, jn_none rfl⟩, trivial, jn_none rfl⟩, jn_none rfl⟩, lp_some rfl (LVInsert_1_ok)⟩, jn_none rfl⟩
noncomputable def gVInsert (m : Nat) (a : Int) (n : Int) (l : List CV) : Option Out :=
 let x1 : Int := IntKind.i64.wrap (a + 1)
 shut (lpVInsert_1
 (fun (y2 : List CV) =>
  some (.ret [] [some ⟨.gen 4 y2, false⟩]))
 FUEL) m a n x1 l
theorem gVInsert_eq (m : Nat) (a : Int) (n : Int) (l : List CV) : bodyK Tryd.prog (EVInsert) 40 false Tryd.f70 [.ref 0 0 m true 4, .cl (.int .i64 a), .cl (.int .i64 n), .cl (.fn (.func 43) [] [])] [⟨.gen 4 l, false⟩] = gVInsert m a n l := by kernel_rfl
end Go.Proofs.YtfkpjbbkdkcdcabDoorA

namespace Go.Proofs.YtfkpjbbkdkcdcabDoorA
noncomputable def lpVStable_2s (again : Nat -> Int -> Int -> Int -> (List CV) -> Option Out) (k0 : Nat -> Int -> Int -> (List CV) -> Option Out) (v1 : Nat) (v2 : Int) (v3 : Int) (v4 : Int) (v5 : List CV) : Option Out :=
 cond (decide (v4 <= v2)) (
  cond (srtOk v1 v5 && decide (v3 = 0 /\ v4 = (v1 : Int))) (
  let r1 : List CV := vSort v5
  let x2 : Int := IntKind.i64.wrap (v4 + 20)
  again v1 v2 v4 x2 r1) none)
 (
  k0 v1 v2 v3 v5)
noncomputable def lpVStable_2 (k0 : Nat -> Int -> Int -> (List CV) -> Option Out) : Nat -> Nat -> Int -> Int -> Int -> (List CV) -> Option Out := iterF (fun a => lpVStable_2s a k0) (fun _ _ _ _ _ => none)
noncomputable def lpVStable_9s (again : Nat -> Int -> Int -> Int -> Int -> (List CV) -> Option Out) (k0 : Nat -> Int -> Int -> Int -> (List CV) -> Option Out) (v1 : Nat) (v2 : Int) (v3 : Int) (v4 : Int) (v5 : Int) (v6 : List CV) : Option Out :=
 cond (decide (v5 <= v2)) (
  cond (false) (
  let x8 : Int := IntKind.i64.wrap ((2 : Int) * v3)
  let x9 : Int := IntKind.i64.wrap (v5 + x8)
  again v1 v2 v3 v5 x9 v6) none)
 (
  k0 v1 v2 v3 v4 v6)
noncomputable def lpVStable_9 (k0 : Nat -> Int -> Int -> Int -> (List CV) -> Option Out) : Nat -> Nat -> Int -> Int -> Int -> Int -> (List CV) -> Option Out := iterF (fun a => lpVStable_9s a k0) (fun _ _ _ _ _ _ => none)
noncomputable def lpVStable_7s (again : Nat -> Int -> Int -> (List CV) -> Option Out) (k0 : (List CV) -> Option Out) (v1 : Nat) (v2 : Int) (v3 : Int) (v4 : List CV) : Option Out :=
 cond (decide (v3 < v2)) (
  let x6 : Int := IntKind.i64.wrap ((2 : Int) * v3)
  shut (lpVStable_9
  (fun (y7 : Nat) (y8 : Int) (y9 : Int) (y10 : Int) (y11 : List CV) =>
   let x12 : Int := IntKind.i64.wrap (y10 + y9)
   cond (decide (x12 < y8)) (
    cond (false) (
    let x13 : Int := IntKind.i64.wrap (y9 * 2)
    again y7 y8 x13 y11) none)
   (
    let x14 : Int := IntKind.i64.wrap (y9 * 2)
    again y7 y8 x14 y11))
  FUEL) v1 v2 v3 0 x6 v4)
 (
  k0 v4)
noncomputable def lpVStable_7 (k0 : (List CV) -> Option Out) : Nat -> Nat -> Int -> Int -> (List CV) -> Option Out := iterF (fun a => lpVStable_7s a k0) (fun _ _ _ _ => none)
noncomputable def LVStable_2 : St -> (Ex -> St -> Option Out) -> Option Out := fun σ k => match σ with
 | ⟨[(q1, .ref q2 q3 v1 true q4), (q5, .cl (.int .i64 v2)), (q6, .cl (.fn (.func q7) [] [])), (q8, .cl (.int .i64 q9)), (q10, .cl (.int .i64 v3)), (q11, .cl (.int .i64 v4))], [(q12, ⟨.gen q13 v5, false⟩)]⟩ => cond (Nat.beq q1 0 && Nat.beq q2 0 && Nat.beq q3 0 && Nat.beq q4 4 && Nat.beq q5 1 && Nat.beq q6 2 && Nat.beq q7 43 && Nat.beq q8 6 && decide (q9 = 20) && Nat.beq q10 7 && Nat.beq q11 8 && Nat.beq q12 0 && Nat.beq q13 4) (shut (lpVStable_2 (fun y1 y2 y3 y4 => k (.exit 0) ⟨[(0, .ref 0 0 y1 true 4), (1, .cl (.int .i64 y2)), (2, .cl (.fn (.func 43) [] [])), (6, .cl (.int .i64 20)), (7, .cl (.int .i64 y3))], [(0, ⟨.gen 4 y4, false⟩)]⟩) FUEL) v1 v2 v3 v4 v5) none
 | _ => none
noncomputable def LVStable_9 : St -> (Ex -> St -> Option Out) -> Option Out := fun σ k => match σ with
 | ⟨[(q1, .ref q2 q3 v1 true q4), (q5, .cl (.int .i64 v2)), (q6, .cl (.fn (.func q7) [] [])), (q8, .cl (.int .i64 v3)), (q9, .cl (.int .i64 v4)), (q10, .cl (.int .i64 v5))], [(q11, ⟨.gen q12 v6, false⟩)]⟩ => cond (Nat.beq q1 0 && Nat.beq q2 0 && Nat.beq q3 0 && Nat.beq q4 4 && Nat.beq q5 1 && Nat.beq q6 2 && Nat.beq q7 43 && Nat.beq q8 6 && Nat.beq q9 7 && Nat.beq q10 8 && Nat.beq q11 0 && Nat.beq q12 4) (shut (lpVStable_9 (fun y1 y2 y3 y4 y5 => k (.exit 4) ⟨[(0, .ref 0 0 y1 true 4), (1, .cl (.int .i64 y2)), (2, .cl (.fn (.func 43) [] [])), (6, .cl (.int .i64 y3)), (7, .cl (.int .i64 y4))], [(0, ⟨.gen 4 y5, false⟩)]⟩) FUEL) v1 v2 v3 v4 v5 v6) none
 | _ => none
noncomputable def LVStable_7 : St -> (Ex -> St -> Option Out) -> Option Out := fun σ k => match σ with
 | ⟨[(q1, .ref q2 q3 v1 true q4), (q5, .cl (.int .i64 v2)), (q6, .cl (.fn (.func q7) [] [])), (q8, .cl (.int .i64 v3))], [(q9, ⟨.gen q10 v4, false⟩)]⟩ => cond (Nat.beq q1 0 && Nat.beq q2 0 && Nat.beq q3 0 && Nat.beq q4 4 && Nat.beq q5 1 && Nat.beq q6 2 && Nat.beq q7 43 && Nat.beq q8 6 && Nat.beq q9 0 && Nat.beq q10 4) (shut (lpVStable_7 (fun y1 => k (.exit 2) ⟨[], [(0, ⟨.gen 4 y1, false⟩)]⟩) FUEL) v1 v2 v3 v4) none
 | _ => none
noncomputable def EVStable : Env := {
 orc := fun g => cond (Nat.beq g 43) (SVCmp) (cond (Nat.beq g 70) (SVInsert) (cond (Nat.beq g 71) (SVMerge) (fun _ _ => Tree.fail)))
 pre := fun g => cond (Nat.beq g 43) (preVCmp) (cond (Nat.beq g 70) (preVInsert) (cond (Nat.beq g 71) (preVMerge) (fun _ _ => true)))
 byref := fun g => cond (Nat.beq g 70) ([0]) (cond (Nat.beq g 71) ([0]) ([]))
 keep := fun _ => false
 live := fun r => cond (Nat.beq r 2) ([0, 1, 2, 6, 7, 8]) (cond (Nat.beq r 7) ([0, 1, 2, 6]) (cond (Nat.beq r 9) ([0, 1, 2, 6, 7, 8]) ([])))
 ren := fun _ => []
 glob := glVal
 nt := 63
 lp := fun r => cond (Nat.beq r 2) (some (LVStable_2)) (cond (Nat.beq r 7) (some (LVStable_7)) (cond (Nat.beq r 9) (some (LVStable_9)) (none)))
 xl := fun r => cond (Nat.beq r 0) (some []) (cond (Nat.beq r 1) (some [0, 1, 2, 6, 7]) (cond (Nat.beq r 3) (some []) (cond (Nat.beq r 5) (some [0, 1, 2, 6, 7]) (none))))
}
noncomputable def blpVStable_2 : Code := (Cd.fst (Cd.fst (Cd.fst (Cd.snd (Cd.snd (Tryd.f59.body.getD .skip))))))
noncomputable def blpVStable_9 : Code := (Cd.fst (Cd.fst (Cd.fst (Cd.snd (Cd.fst (Cd.snd (Cd.fst (Cd.fst (Cd.snd (Cd.snd (Cd.snd (Cd.snd (Tryd.f59.body.getD .skip)))))))))))))
noncomputable def blpVStable_7 : Code := (Cd.fst (Cd.fst (Cd.snd (Cd.snd (Cd.snd (Cd.snd (Tryd.f59.body.getD .skip)))))))
theorem LVStable_2_ok : LpOk Tryd.prog (EVStable) 40 blpVStable_2 2 LVStable_2 := by
 intro σ k r h
 unfold LVStable_2 at h
 split at h
 ·replace h := cond_some h
  obtain ⟨hc, h⟩ := h
  simp only [Bool.and_eq_true, beq_prop, decide_eq_true_eq, Bool.not_eq_true'] at hc
  obtain ⟨⟨⟨⟨⟨⟨⟨⟨⟨⟨⟨⟨rfl, rfl⟩, rfl⟩, rfl⟩, rfl⟩, rfl⟩, rfl⟩, rfl⟩, rfl⟩, rfl⟩, rfl⟩, rfl⟩, rfl⟩ := hc
  rw [shut_eq] at h
  exact ⟨FUEL, iter_ok (F := fun n v1 v2 v3 v4 v5 => iterK n (codeK Tryd.prog (EVStable) 40 blpVStable_2) (head (EVStable) 2) ⟨[(0, .ref 0 0 v1 true 4), (1, .cl (.int .i64 v2)), (2, .cl (.fn (.func 43) [] [])), (6, .cl (.int .i64 20)), (7, .cl (.int .i64 v3)), (8, .cl (.int .i64 v4))], [(0, ⟨.gen 4 v5, false⟩)]⟩ k) (Q := fun f => f _ _ _ _ _ = some r) rfl (fun n => by kernel_rfl) h⟩
 ·cases h
theorem LVStable_9_ok : LpOk Tryd.prog (EVStable) 40 blpVStable_9 9 LVStable_9 := by
 intro σ k r h
 unfold LVStable_9 at h
 split at h
 ·replace h := cond_some h
  obtain ⟨hc, h⟩ := h
  simp only [Bool.and_eq_true, beq_prop, decide_eq_true_eq, Bool.not_eq_true'] at hc
  obtain ⟨⟨⟨⟨⟨⟨⟨⟨⟨⟨⟨rfl, rfl⟩, rfl⟩, rfl⟩, rfl⟩, rfl⟩, rfl⟩, rfl⟩, rfl⟩, rfl⟩, rfl⟩, rfl⟩ := hc
  rw [shut_eq] at h
  exact ⟨FUEL, iter_ok (F := fun n v1 v2 v3 v4 v5 v6 => iterK n (codeK Tryd.prog (EVStable) 40 blpVStable_9) (head (EVStable) 9) ⟨[(0, .ref 0 0 v1 true 4), (1, .cl (.int .i64 v2)), (2, .cl (.fn (.func 43) [] [])), (6, .cl (.int .i64 v3)), (7, .cl (.int .i64 v4)), (8, .cl (.int .i64 v5))], [(0, ⟨.gen 4 v6, false⟩)]⟩ k) (Q := fun f => f _ _ _ _ _ _ = some r) rfl (fun n => by kernel_rfl) h⟩
 ·cases h
theorem LVStable_7_ok : LpOk Tryd.prog (EVStable) 40 blpVStable_7 7 LVStable_7 := by
 intro σ k r h
 unfold LVStable_7 at h
 split at h
 ·replace h := cond_some h
  obtain ⟨hc, h⟩ := h
  simp only [Bool.and_eq_true, beq_prop, decide_eq_true_eq, Bool.not_eq_true'] at hc
  obtain ⟨⟨⟨⟨⟨⟨⟨⟨⟨rfl, rfl⟩, rfl⟩, rfl⟩, rfl⟩, rfl⟩, rfl⟩, rfl⟩, rfl⟩, rfl⟩ := hc
  rw [shut_eq] at h
  exact ⟨FUEL, iter_ok (F := fun n v1 v2 v3 v4 => iterK n (codeK Tryd.prog (EVStable) 40 blpVStable_7) (head (EVStable) 7) ⟨[(0, .ref 0 0 v1 true 4), (1, .cl (.int .i64 v2)), (2, .cl (.fn (.func 43) [] [])), (6, .cl (.int .i64 v3))], [(0, ⟨.gen 4 v4, false⟩)]⟩ k) (Q := fun f => f _ _ _ _ = some r) rfl (fun n => by kernel_rfl) h⟩
 ·cases h
theorem loopsVStable : ∀ c, Tryd.f59.body = some c -> LoopsOk Tryd.prog (EVStable) 40 c := by
 intro c hc
 cases hc
 exact ⟨trivial, ⟨trivial, ⟨⟨⟨⟨trivial, ⟨trivial, trivial, jn_none rfl⟩, jn_none rfl⟩, ⟨trivial, ⟨trivial, trivial, jn_none rfl⟩, jn_none rfl⟩, jn_none rfl⟩, lp_some rfl (LVStable_2_ok)⟩, ⟨trivial, ⟨⟨⟨trivial, ⟨trivial, trivial, jn_none rfl⟩, jn_none rfl⟩, ⟨trivial, ⟨⟨⟨⟨trivial, ⟨trivial, trivial, jn_none rfl⟩, jn_none rfl⟩, ⟨trivial, ⟨trivial, trivial, jn_none rfl⟩, jn_none rfl⟩, jn_none rfl⟩, lp_some rfl (LVStable_9_ok)⟩, ⟨⟨trivial, ⟨trivial, ⟨trivial, trivial, jn_none rfl⟩, jn_none rfl⟩, jn_none rfl⟩, trivial, jn_none rfl⟩, jn_none rfl⟩, jn_none rfl⟩, jn_none rfl⟩, lp_some rfl (LVStable_7_ok)⟩, jn_none rfl⟩, jn_none rfl⟩, jn_none rfl⟩, jn_none rfl⟩
noncomputable def gVStable (m : Nat) (n : Int) (l : List CV) : Option Out :=
 shut (lpVStable_2
 (fun (y1 : Nat) (y2 : Int) (y3 : Int) (y4 : List CV) =>
  cond (srtOk y1 y4 && decide (y3 = 0 /\ y2 = (y1 : Int))) (
  let r5 : List CV := vSort y4
  shut (lpVStable_7
  (fun (y6 : List CV) =>
   some (.ret [] [some ⟨.gen 4 y6, false⟩]))
  FUEL) y1 y2 20 r5) none)
 FUEL) m n 0 20 l
theorem gVStable_eq (m : Nat) (n : Int) (l : List CV) : bodyK Tryd.prog (EVStable) 40 false Tryd.f59 [.ref 0 0 m true 4, .cl (.int .i64 n), .cl (.fn (.func 43) [] [])] [⟨.gen 4 l, false⟩] = gVStable m n l := by kernel_rfl
end Go.Proofs.YtfkpjbbkdkcdcabDoorA

namespace Go.Proofs.YtfkpjbbkdkcdcabDoorA
noncomputable def EVSort : Env := {
 orc := fun g => cond (Nat.beq g 43) (SVCmp) (cond (Nat.beq g 59) (SVStable) (fun _ _ => Tree.fail))
 pre := fun g => cond (Nat.beq g 43) (preVCmp) (cond (Nat.beq g 59) (preVStable) (fun _ _ => true))
 byref := fun g => cond (Nat.beq g 59) ([0]) ([])
 keep := fun _ => false
 live := fun _ => []
 ren := fun _ => []
 glob := glVal
 nt := 9
 lp := fun _ => none
 xl := fun r => cond (Nat.beq r 0) (some []) (none)
}
theorem loopsVSort : ∀ c, Tryd.f42.body = some c -> LoopsOk Tryd.prog (EVSort) 40 c := by
 intro c hc
 cases hc
 exact trivial
noncomputable def gVSort (m : Nat) (l : List CV) : Option Out :=
 cond (srtOk m l && decide (((m : Nat) : Int) = (m : Int))) (
 let r1 : List CV := vSort l
 some (.ret [] [some ⟨.gen 4 r1, false⟩])) none
theorem gVSort_eq (m : Nat) (l : List CV) : bodyK Tryd.prog (EVSort) 40 false Tryd.f42 [.ref 0 0 m true 4, .cl (.fn (.func 43) [] [])] [⟨.gen 4 l, false⟩] = gVSort m l := by kernel_rfl
end Go.Proofs.YtfkpjbbkdkcdcabDoorA

namespace Go.Proofs.YtfkpjbbkdkcdcabDoorA
noncomputable def lpVSet_3s (again : Nat -> (List CV) -> Int -> Int -> (List CV) -> Option Out) (k0 : Option Out) (k1 : Nat -> (List CV) -> Option Out) (v1 : Nat) (v2 : List CV) (v3 : Int) (v4 : Int) (v5 : List CV) : Option Out :=
 cond (decide (v4 < v3)) (
  getK v2 v4 fun e1 =>
  let e2 : CV := (cell1 e1).headD .nili
  let e3 : CV := (cell1 e1).tail.headD .nili
  let e4 : CV := (cell1 e1).tail.tail.headD .nili
  cond (okInt .i64 e2 && (okSli .u8 e3 && (okSlg 3 e4 && true))) (
  let i5 : Int := cvInt e2
  let l6 : List Int := cvSli e3
  let l7 : List CV := cvSlg e4
  cond (isS [.int .i64 i5, .sli .u8 l6, .slg 3 l7]) (
  let r8 : List Int := (ndBytes [.int .i64 i5, .sli .u8 l6, .slg 3 l7]).1
  let r9 : Int := (ndBytes [.int .i64 i5, .sli .u8 l6, .slg 3 l7]).2
  cond (!decide (r9 = 0)) (
   k0)
  (
   idxK v4 v1 fun _ =>
   let l10 : List CV := v5.set (0 + (Int.toNat v4)) (.agg [.int .i64 i5, .sli .u8 l6, .slg 3 l7, .sli .u8 r8])
   let x11 : Int := IntKind.i64.wrap (v4 + 1)
   again v1 v2 v3 x11 l10)) none) none)
 (
  k1 v1 v5)
noncomputable def lpVSet_3 (k0 : Option Out) (k1 : Nat -> (List CV) -> Option Out) : Nat -> Nat -> (List CV) -> Int -> Int -> (List CV) -> Option Out := iterF (fun a => lpVSet_3s a k0 k1) (fun _ _ _ _ _ => none)
noncomputable def lpVSet_13s (again : Nat -> Int -> Int -> Nat -> (List CV) -> (List CV) -> Option Out) (k0 : Nat -> (List CV) -> Option Out) (v1 : Nat) (v2 : Int) (v3 : Int) (v4 : Nat) (v5 : List CV) (v6 : List CV) : Option Out :=
 cond (decide (v3 < v2)) (
  idxK v3 v1 fun _ =>
  Option.bind (v5[(0 + (Int.toNat v3))]?) fun (e4 : CV) =>
  let e5 : CV := (cell1 e4).headD .nili
  let e6 : CV := (cell1 e4).tail.headD .nili
  let e7 : CV := (cell1 e4).tail.tail.headD .nili
  let e8 : CV := (cell1 e4).tail.tail.tail.headD .nili
  cond (okInt .i64 e5 && (okSli .u8 e6 && (okSlg 3 e7 && (okSli .u8 e8 && true)))) (
  let i9 : Int := cvInt e5
  let l10 : List Int := cvSli e6
  let l11 : List CV := cvSlg e7
  let l13 : List CV := v6 ++ ([.agg [.int .i64 i9, .sli .u8 l10, .slg 3 l11]])
  rmK l13.length 56 <|
  let x14 : Int := IntKind.i64.wrap (v3 + 1)
  again v1 v2 x14 l13.length v5 l13) none)
 (
  k0 v4 v6)
noncomputable def lpVSet_13 (k0 : Nat -> (List CV) -> Option Out) : Nat -> Nat -> Int -> Int -> Nat -> (List CV) -> (List CV) -> Option Out := iterF (fun a => lpVSet_13s a k0) (fun _ _ _ _ _ _ => none)
noncomputable def LVSet_3 : St -> (Ex -> St -> Option Out) -> Option Out := fun σ k => match σ with
 | ⟨[(q1, .ptr q2 q3 q4), (q5, .ref q6 q7 v1 true q8), (q9, .cl (.slg q10 v2)), (q11, .cl (.int .i64 v3)), (q12, .cl (.int .i64 v4))], [(q13, ⟨.var [.cl (.int .i64 q14), .nils, .nils], false⟩), (q15, ⟨.gen q16 v5, false⟩)]⟩ => cond (Nat.beq q1 2 && Nat.beq q2 66 && Nat.beq q3 0 && Nat.beq q4 0 && Nat.beq q5 4 && Nat.beq q6 78 && Nat.beq q7 0 && Nat.beq q8 4 && Nat.beq q9 15 && Nat.beq q10 3 && Nat.beq q11 16 && Nat.beq q12 17 && Nat.beq q13 66 && decide (q14 = 0) && Nat.beq q15 78 && Nat.beq q16 4) (shut (lpVSet_3 (k .ret ⟨[(2, .ptr 66 0 0), (3, .cl (.int .i64 1))], [(66, ⟨.var [.cl (.int .i64 0), .nils, .nils], false⟩)]⟩) (fun y1 y2 => k (.exit 0) ⟨[(2, .ptr 66 0 0), (4, .ref 78 0 y1 true 4)], [(66, ⟨.var [.cl (.int .i64 0), .nils, .nils], false⟩), (78, ⟨.gen 4 y2, false⟩)]⟩) FUEL) v1 v2 v3 v4 v5) none
 | _ => none
noncomputable def LVSet_13 : St -> (Ex -> St -> Option Out) -> Option Out := fun σ k => match σ with
 | ⟨[(q1, .ptr q2 q3 q4), (q5, .ptr q6 q7 q8), (q9, .ref q10 q11 v1 true q12), (q13, .cl (.int .i64 v2)), (q14, .cl (.int .i64 v3))], [(q15, ⟨.var [.cl (.int .i64 q16), .nils, .nils], false⟩), (q17, ⟨.var [.cl (.int .i64 q18), .nils, .ref q19 q20 v4 true q21], false⟩), (q22, ⟨.gen q23 v5, false⟩), (q24, ⟨.gen q25 v6, false⟩)]⟩ => cond (Nat.beq q1 2 && Nat.beq q2 66 && Nat.beq q3 0 && Nat.beq q4 0 && Nat.beq q5 9 && Nat.beq q6 73 && Nat.beq q7 0 && Nat.beq q8 0 && Nat.beq q9 40 && Nat.beq q10 78 && Nat.beq q11 0 && Nat.beq q12 4 && Nat.beq q13 41 && Nat.beq q14 42 && Nat.beq q15 66 && decide (q16 = 0) && Nat.beq q17 73 && decide (q18 = 49) && Nat.beq q19 115 && Nat.beq q20 0 && Nat.beq q21 3 && Nat.beq q22 78 && Nat.beq q23 4 && Nat.beq q24 115 && Nat.beq q25 3) (shut (lpVSet_13 (fun y1 y2 => k (.exit 2) ⟨[(2, .ptr 66 0 0), (9, .ptr 73 0 0)], [(66, ⟨.var [.cl (.int .i64 0), .nils, .nils], false⟩), (73, ⟨.var [.cl (.int .i64 49), .nils, .ref 115 0 y1 true 3], false⟩), (115, ⟨.gen 3 y2, false⟩)]⟩) FUEL) v1 v2 v3 v4 v5 v6) none
 | _ => none
noncomputable def EVSet : Env := {
 orc := fun g => cond (Nat.beq g 41) (SDBytes) (cond (Nat.beq g 42) (SVSort) (cond (Nat.beq g 43) (SVCmp) (fun _ _ => Tree.fail)))
 pre := fun g => cond (Nat.beq g 41) (preDBytes) (cond (Nat.beq g 42) (preVSort) (cond (Nat.beq g 43) (preVCmp) (fun _ _ => true)))
 byref := fun g => cond (Nat.beq g 42) ([0]) ([])
 keep := fun _ => false
 live := fun r => cond (Nat.beq r 3) ([2, 4, 15, 16, 17]) (cond (Nat.beq r 13) ([2, 9, 40, 41, 42]) ([]))
 ren := fun _ => []
 vir := fun r => cond (Nat.beq r 13) ([(73, 2, 115, .gen 3 [])]) ([])
 glob := glVal
 nt := 55
 lp := fun r => cond (Nat.beq r 3) (some (LVSet_3)) (cond (Nat.beq r 13) (some (LVSet_13)) (none))
 xl := fun r => cond (Nat.beq r 0) (some [2, 3]) (cond (Nat.beq r 1) (some [2, 4]) (cond (Nat.beq r 3) (some [2, 9]) (none)))
}
noncomputable def blpVSet_3 : Code := (Cd.fst (Cd.fst (Cd.snd (Cd.fst (Cd.snd (Cd.snd (Tryd.f24.body.getD .skip)))))))
noncomputable def blpVSet_13 : Code := (Cd.fst (Cd.fst (Cd.snd (Cd.fst (Cd.snd (Cd.snd (Cd.snd (Cd.snd (Cd.snd (Tryd.f24.body.getD .skip))))))))))
theorem LVSet_3_ok : LpOk Tryd.prog (EVSet) 40 blpVSet_3 3 LVSet_3 := by
 intro σ k r h
 unfold LVSet_3 at h
 split at h
 ·replace h := cond_some h
  obtain ⟨hc, h⟩ := h
  simp only [Bool.and_eq_true, beq_prop, decide_eq_true_eq, Bool.not_eq_true'] at hc
  obtain ⟨⟨⟨⟨⟨⟨⟨⟨⟨⟨⟨⟨⟨⟨⟨rfl, rfl⟩, rfl⟩, rfl⟩, rfl⟩, rfl⟩, rfl⟩, rfl⟩, rfl⟩, rfl⟩, rfl⟩, rfl⟩, rfl⟩, rfl⟩, rfl⟩, rfl⟩ := hc
  rw [shut_eq] at h
  exact ⟨FUEL, iter_ok (F := fun n v1 v2 v3 v4 v5 => iterK n (codeK Tryd.prog (EVSet) 40 blpVSet_3) (head (EVSet) 3) ⟨[(2, .ptr 66 0 0), (4, .ref 78 0 v1 true 4), (15, .cl (.slg 3 v2)), (16, .cl (.int .i64 v3)), (17, .cl (.int .i64 v4))], [(66, ⟨.var [.cl (.int .i64 0), .nils, .nils], false⟩), (78, ⟨.gen 4 v5, false⟩)]⟩ k) (Q := fun f => f _ _ _ _ _ = some r) rfl (fun n => by kernel_rfl) h⟩
 ·cases h
theorem LVSet_13_ok : LpOk Tryd.prog (EVSet) 40 blpVSet_13 13 LVSet_13 := by
 intro σ k r h
 unfold LVSet_13 at h
 split at h
 ·replace h := cond_some h
  obtain ⟨hc, h⟩ := h
  simp only [Bool.and_eq_true, beq_prop, decide_eq_true_eq, Bool.not_eq_true'] at hc
  obtain ⟨⟨⟨⟨⟨⟨⟨⟨⟨⟨⟨⟨⟨⟨⟨⟨⟨⟨⟨⟨⟨⟨⟨⟨rfl, rfl⟩, rfl⟩, rfl⟩, rfl⟩, rfl⟩, rfl⟩, rfl⟩, rfl⟩, rfl⟩, rfl⟩, rfl⟩, rfl⟩, rfl⟩, rfl⟩, rfl⟩, rfl⟩, rfl⟩, rfl⟩, rfl⟩, rfl⟩, rfl⟩, rfl⟩, rfl⟩, rfl⟩ := hc
  rw [shut_eq] at h
  exact ⟨FUEL, iter_ok (F := fun n v1 v2 v3 v4 v5 v6 => iterK n (codeK Tryd.prog (EVSet) 40 blpVSet_13) (head (EVSet) 13) ⟨[(2, .ptr 66 0 0), (9, .ptr 73 0 0), (40, .ref 78 0 v1 true 4), (41, .cl (.int .i64 v2)), (42, .cl (.int .i64 v3))], [(66, ⟨.var [.cl (.int .i64 0), .nils, .nils], false⟩), (73, ⟨.var [.cl (.int .i64 49), .nils, .ref 115 0 v4 true 3], false⟩), (78, ⟨.gen 4 v5, false⟩), (115, ⟨.gen 3 v6, false⟩)]⟩ k) (Q := fun f => f _ _ _ _ _ _ = some r) rfl (fun n => by kernel_rfl) h⟩
 ·cases h
theorem loopsVSet : ∀ c, Tryd.f24.body = some c -> LoopsOk Tryd.prog (EVSet) 40 c := by
 intro c hc
 cases hc
 exact ⟨trivial, ⟨trivial, ⟨⟨trivial, ⟨⟨trivial, ⟨⟨trivial, trivial, jn_none rfl⟩, ⟨⟨trivial, ⟨trivial, ⟨⟨trivial, ⟨⟨trivial, trivial, jn_none rfl⟩, trivial, jn_none rfl⟩, jn_none rfl⟩, trivial, jn_none rfl⟩, jn_none rfl⟩, jn_none rfl⟩, trivial, jn_none rfl⟩, jn_none rfl⟩, jn_none rfl⟩, lp_some rfl (LVSet_3_ok)⟩, jn_none rfl⟩, ⟨trivial, ⟨trivial, ⟨⟨trivial, ⟨⟨trivial, ⟨⟨trivial, trivial, jn_none rfl⟩, ⟨⟨trivial, trivial, jn_none rfl⟩, trivial, jn_none rfl⟩, jn_none rfl⟩, jn_none rfl⟩, lp_some rfl (LVSet_13_ok)⟩, jn_none rfl⟩, ⟨trivial, trivial, jn_none rfl⟩, jn_none rfl⟩, jn_none rfl⟩, jn_none rfl⟩, jn_none rfl⟩, jn_none rfl⟩, jn_none rfl⟩
noncomputable def gVSet (l : List CV) : Option Out :=
 cond (decide ((0 : Int) <= ((l.length : Nat) : Int))) (
 cond (decide (((l.length : Nat) : Int) <= ((l.length : Nat) : Int))) (
 cond (decide (((l.length : Nat) : Int) * 80 <= LIM)) (
 cond (decide (((l.length : Nat) : Int) <= LIM)) (
 shut (lpVSet_3
 (
  some (.ret [.cl (.agg [.int .i64 0, .sli .u8 [], .slg 3 []]), .cl (.int .i64 1)] []))
 (fun (y1 : Nat) (y2 : List CV) =>
  cond (srtOk y1 y2) (
  let r3 : List CV := vSort y2
  shut (lpVSet_13
  (fun (y4 : Nat) (y5 : List CV) =>
   some (.ret [.cl (.agg [.int .i64 49, .sli .u8 [], .slg 3 y5]), .cl (.int .i64 0)] []))
  FUEL) y1 ((y1 : Nat) : Int) 0 0 r3 []) none)
 FUEL) (Int.toNat ((l.length : Nat) : Int)) l ((l.length : Nat) : Int) 0 (List.replicate (Int.toNat ((l.length : Nat) : Int)) (.agg [.int .i64 0, .sli .u8 [], .slg 3 [], .sli .u8 []]))) none) none) none) none
theorem gVSet_eq (l : List CV) : bodyK Tryd.prog (EVSet) 40 false Tryd.f24 [.cl (.slg 3 l)] [] = gVSet l := by kernel_rfl
end Go.Proofs.YtfkpjbbkdkcdcabDoorA

namespace Go.Proofs.YtfkpjbbkdkcdcabDoorA
noncomputable def EVMade : Env := {
 orc := fun g => cond (Nat.beq g 45) (SDFit_) (fun _ _ => Tree.fail)
 pre := fun g => cond (Nat.beq g 45) (preDFit_) (fun _ _ => true)
 byref := fun _ => []
 keep := fun _ => false
 live := fun _ => []
 ren := fun _ => []
 glob := glVal
 nt := 15
 lp := fun _ => none
 xl := fun r => cond (Nat.beq r 0) (some [4, 5]) (none)
}
theorem loopsVMade : ∀ c, Tryd.f31.body = some c -> LoopsOk Tryd.prog (EVMade) 40 c := by
 intro c hc
 cases hc
 exact ⟨trivial, ⟨trivial, ⟨⟨trivial, ⟨⟨trivial, trivial, jn_none rfl⟩, trivial, jn_none rfl⟩, jn_none rfl⟩, ⟨trivial, trivial, jn_none rfl⟩, jn_none rfl⟩, jn_none rfl⟩, jn_none rfl⟩
noncomputable def gVMade (g : Int) (b : List Int) : Option Out :=
 cond (isS ([.int .i64 g, .sli .u8 b, .slg 3 []])) (
 let r1 : Bool := ndFit ([.int .i64 g, .sli .u8 b, .slg 3 []])
 cond (!r1) (
  some (.ret [.cl (.agg [.int .i64 0, .sli .u8 [], .slg 3 []]), .cl (.int .i64 5)] []))
 (
  some (.ret [.cl (.agg [.int .i64 g, .sli .u8 b, .slg 3 []]), .cl (.int .i64 0)] []))) none
theorem gVMade_eq (g : Int) (b : List Int) : bodyK Tryd.prog (EVMade) 40 false Tryd.f31 [.cl (.int .i64 g), .cl (.sli .u8 b)] [] = gVMade g b := by kernel_rfl
end Go.Proofs.YtfkpjbbkdkcdcabDoorA

namespace Go.Proofs.YtfkpjbbkdkcdcabDoorA
noncomputable def EVUtf8 : Env := {
 orc := fun g => cond (Nat.beq g 31) (SVMade) (fun _ _ => Tree.fail)
 pre := fun g => cond (Nat.beq g 31) (preVMade) (fun _ _ => true)
 byref := fun _ => []
 keep := fun _ => false
 live := fun _ => []
 ren := fun _ => []
 glob := glVal
 nt := 9
 lp := fun _ => none
 xl := fun r => cond (Nat.beq r 0) (some [2, 3]) (none)
}
theorem loopsVUtf8 : ∀ c, Tryd.f15.body = some c -> LoopsOk Tryd.prog (EVUtf8) 40 c := by
 intro c hc
 cases hc
 exact ⟨trivial, ⟨trivial, trivial, jn_none rfl⟩, jn_none rfl⟩
noncomputable def gVUtf8 (s : ByteArray) : Option Out :=
 cond (madeOk 12 (bytesOf s)) (
 let r1 : Int := (vMade 12 (bytesOf s)).1
 let r2 : List Int := (vMade 12 (bytesOf s)).2.1
 let r3 : List CV := noKids
 let r4 : Int := (vMade 12 (bytesOf s)).2.2
 some (.ret [.cl (.agg [.int .i64 r1, .sli .u8 r2, .slg 3 r3]), .cl (.int .i64 r4)] [])) none
theorem gVUtf8_eq (s : ByteArray) : bodyK Tryd.prog (EVUtf8) 40 false Tryd.f15 [.cl (.str s)] [] = gVUtf8 s := by kernel_rfl
end Go.Proofs.YtfkpjbbkdkcdcabDoorA

namespace Go.Proofs.YtfkpjbbkdkcdcabDoorA
noncomputable def EVId : Env := {
 orc := fun g => cond (Nat.beq g 31) (SVMade) (cond (Nat.beq g 34) (SOBytes) (fun _ _ => Tree.fail))
 pre := fun g => cond (Nat.beq g 31) (preVMade) (cond (Nat.beq g 34) (preOBytes) (fun _ _ => true))
 byref := fun _ => []
 keep := fun _ => false
 live := fun _ => []
 ren := fun _ => []
 glob := glVal
 nt := 9
 lp := fun _ => none
 xl := fun r => cond (Nat.beq r 0) (some [2, 3]) (none)
}
theorem loopsVId : ∀ c, Tryd.f17.body = some c -> LoopsOk Tryd.prog (EVId) 40 c := by
 intro c hc
 cases hc
 exact ⟨trivial, ⟨trivial, trivial, jn_none rfl⟩, jn_none rfl⟩
noncomputable def gVId (o : List Int) : Option Out :=
 cond (u32sOk o) (
 let r1 : List Int := oidBytes o
 cond (madeOk 6 r1) (
 let r2 : Int := (vMade 6 r1).1
 let r3 : List Int := (vMade 6 r1).2.1
 let r4 : List CV := noKids
 let r5 : Int := (vMade 6 r1).2.2
 some (.ret [.cl (.agg [.int .i64 r2, .sli .u8 r3, .slg 3 r4]), .cl (.int .i64 r5)] [])) none) none
theorem gVId_eq (o : List Int) : bodyK Tryd.prog (EVId) 40 false Tryd.f17 [.cl (.sli .u32 o)] [] = gVId o := by kernel_rfl
end Go.Proofs.YtfkpjbbkdkcdcabDoorA

namespace Go.Proofs.YtfkpjbbkdkcdcabDoorA
noncomputable def EVTime : Env := {
 orc := fun g => cond (Nat.beq g 31) (SVMade) (cond (Nat.beq g 37) (SSText) (fun _ _ => Tree.fail))
 pre := fun g => cond (Nat.beq g 31) (preVMade) (cond (Nat.beq g 37) (preSText) (fun _ _ => true))
 byref := fun _ => []
 keep := fun _ => false
 live := fun _ => []
 ren := fun _ => []
 glob := glVal
 nt := 10
 lp := fun _ => none
 xl := fun r => cond (Nat.beq r 0) (some [2, 3]) (none)
}
theorem loopsVTime : ∀ c, Tryd.f20.body = some c -> LoopsOk Tryd.prog (EVTime) 40 c := by
 intro c hc
 cases hc
 exact ⟨trivial, ⟨trivial, trivial, jn_none rfl⟩, jn_none rfl⟩
noncomputable def gVTime (t : Int) : Option Out :=
 cond (stI64 t) (
 let r1 : ByteArray := stText t
 cond (madeOk 24 (bytesOf r1)) (
 let r2 : Int := (vMade 24 (bytesOf r1)).1
 let r3 : List Int := (vMade 24 (bytesOf r1)).2.1
 let r4 : List CV := noKids
 let r5 : Int := (vMade 24 (bytesOf r1)).2.2
 some (.ret [.cl (.agg [.int .i64 r2, .sli .u8 r3, .slg 3 r4]), .cl (.int .i64 r5)] [])) none) none
theorem gVTime_eq (t : Int) : bodyK Tryd.prog (EVTime) 40 false Tryd.f20 [.cl (.int .i64 t)] [] = gVTime t := by kernel_rfl
end Go.Proofs.YtfkpjbbkdkcdcabDoorA

namespace Go.Proofs.YtfkpjbbkdkcdcabDoorA
noncomputable def EVBytes : Env := {
 orc := fun g => cond (Nat.beq g 28) (SSClone) (fun _ _ => Tree.fail)
 pre := fun g => cond (Nat.beq g 28) (preSClone) (fun _ _ => true)
 byref := fun _ => []
 keep := fun _ => false
 live := fun _ => []
 ren := fun _ => []
 glob := glVal
 nt := 6
 lp := fun _ => none
 xl := fun r => cond (Nat.beq r 0) (some [2]) (none)
}
theorem loopsVBytes : ∀ c, Tryd.f9.body = some c -> LoopsOk Tryd.prog (EVBytes) 40 c := by
 intro c hc
 cases hc
 exact ⟨trivial, ⟨trivial, trivial, jn_none rfl⟩, jn_none rfl⟩
noncomputable def gVBytes (b : List Int) : Option Out :=
 cond (lenOk b) (
 some (.ret [.cl (.agg [.int .i64 4, .sli .u8 b, .slg 3 []])] [])) none
theorem gVBytes_eq (b : List Int) : bodyK Tryd.prog (EVBytes) 40 false Tryd.f9 [.cl (.sli .u8 b)] [] = gVBytes b := by kernel_rfl
end Go.Proofs.YtfkpjbbkdkcdcabDoorA

namespace Go.Proofs.YtfkpjbbkdkcdcabDoorA
noncomputable def EVClone : Env := {
 orc := fun _ => fun _ _ => Tree.fail
 pre := fun _ => fun _ _ => true
 byref := fun _ => []
 keep := fun _ => false
 live := fun _ => []
 ren := fun _ => []
 glob := glVal
 nt := 8
 lp := fun _ => none
 xl := fun r => cond (Nat.beq r 0) (some [2]) (none)
}
theorem loopsVClone : ∀ c, Tryd.f30.body = some c -> LoopsOk Tryd.prog (EVClone) 40 c := by
 intro c hc
 cases hc
 exact ⟨trivial, ⟨⟨trivial, ⟨⟨trivial, trivial, jn_none rfl⟩, trivial, jn_none rfl⟩, jn_none rfl⟩, ⟨trivial, trivial, jn_none rfl⟩, jn_none rfl⟩, jn_none rfl⟩
noncomputable def gVClone (l : List CV) : Option Out :=
 cond (Nat.beq l.length 0) (
  bothK (
   some (.ret [.cl (.slg 3 [])] []))
  (
   let l1 : List CV := [] ++ l
   rmK l1.length 56 <|
   some (.ret [.cl (.slg 3 l1)] [])))
 (
  let l2 : List CV := [] ++ l
  rmK l2.length 56 <|
  some (.ret [.cl (.slg 3 l2)] []))
theorem gVClone_eq (l : List CV) : bodyK Tryd.prog (EVClone) 40 false Tryd.f30 [.cl (.slg 3 l)] [] = gVClone l := by kernel_rfl
end Go.Proofs.YtfkpjbbkdkcdcabDoorA

namespace Go.Proofs.YtfkpjbbkdkcdcabDoorA
noncomputable def EVSeq : Env := {
 orc := fun g => cond (Nat.beq g 30) (SVClone) (fun _ _ => Tree.fail)
 pre := fun g => cond (Nat.beq g 30) (preVClone) (fun _ _ => true)
 byref := fun _ => []
 keep := fun _ => false
 live := fun _ => []
 ren := fun _ => []
 glob := glVal
 nt := 6
 lp := fun _ => none
 xl := fun r => cond (Nat.beq r 0) (some [2]) (none)
}
theorem loopsVSeq : ∀ c, Tryd.f11.body = some c -> LoopsOk Tryd.prog (EVSeq) 40 c := by
 intro c hc
 cases hc
 exact ⟨trivial, ⟨trivial, trivial, jn_none rfl⟩, jn_none rfl⟩
noncomputable def gVSeq (l : List CV) : Option Out :=
 cond (lenOkC l) (
 some (.ret [.cl (.agg [.int .i64 48, .sli .u8 [], .slg 3 l])] [])) none
theorem gVSeq_eq (l : List CV) : bodyK Tryd.prog (EVSeq) 40 false Tryd.f11 [.cl (.slg 3 l)] [] = gVSeq l := by kernel_rfl
end Go.Proofs.YtfkpjbbkdkcdcabDoorA

namespace Go.Proofs.YtfkpjbbkdkcdcabDoorA
noncomputable def EVKids : Env := {
 orc := fun g => cond (Nat.beq g 29) (SDBoxed) (cond (Nat.beq g 30) (SVClone) (fun _ _ => Tree.fail))
 pre := fun g => cond (Nat.beq g 29) (preDBoxed) (cond (Nat.beq g 30) (preVClone) (fun _ _ => true))
 byref := fun _ => []
 keep := fun _ => false
 live := fun _ => []
 ren := fun _ => []
 glob := glVal
 nt := 24
 lp := fun _ => none
 xl := fun r => cond (Nat.beq r 0) (some [4, 5]) (none)
}
theorem loopsVKids : ∀ c, Tryd.f10.body = some c -> LoopsOk Tryd.prog (EVKids) 40 c := by
 intro c hc
 cases hc
 exact ⟨trivial, ⟨⟨trivial, ⟨⟨trivial, trivial, jn_none rfl⟩, ⟨trivial, ⟨⟨trivial, trivial, jn_none rfl⟩, trivial, jn_none rfl⟩, jn_none rfl⟩, jn_none rfl⟩, jn_none rfl⟩, ⟨trivial, trivial, jn_none rfl⟩, jn_none rfl⟩, jn_none rfl⟩
noncomputable def gVKids (t : Int) (b : List Int) (k : List CV) (g : Int) : Option Out :=
 cond (!decide (t = g)) (
  some (.ret [.cl (.slg 3 []), .cl (.int .i64 4)] []))
 (
  let r1 : Bool := derBoxed g
  cond (!r1) (
   some (.ret [.cl (.slg 3 []), .cl (.int .i64 4)] []))
  (
   cond (decide ((0 : Int) < ((b.length : Nat) : Int))) (
    some (.ret [.cl (.slg 3 []), .cl (.int .i64 5)] []))
   (
    cond (lenOkC k) (
    some (.ret [.cl (.slg 3 k), .cl (.int .i64 0)] [])) none)))
theorem gVKids_eq (t : Int) (b : List Int) (k : List CV) (g : Int) : bodyK Tryd.prog (EVKids) 40 false Tryd.f10 [.cl (.agg [.int .i64 t, .sli .u8 b, .slg 3 k]), .cl (.int .i64 g)] [] = gVKids t b k g := by kernel_rfl
end Go.Proofs.YtfkpjbbkdkcdcabDoorA

namespace Go.Proofs.YtfkpjbbkdkcdcabDoorA
noncomputable def EVRSeq : Env := {
 orc := fun _ => fun _ _ => Tree.fail
 pre := fun _ => fun _ _ => true
 byref := fun _ => []
 keep := fun _ => false
 live := fun _ => []
 ren := fun _ => []
 glob := glVal
 nt := 5
 lp := fun _ => none
 xl := fun r => cond (Nat.beq r 0) (some [2]) (none)
}
theorem loopsVRSeq : ∀ c, Tryd.f14.body = some c -> LoopsOk Tryd.prog (EVRSeq) 40 c := by
 intro c hc
 cases hc
 exact ⟨trivial, ⟨trivial, trivial, jn_none rfl⟩, jn_none rfl⟩
noncomputable def gVRSeq (l : List CV) : Option Out :=
 some (.ret [.cl (.agg [.int .i64 48, .sli .u8 [], .slg 3 l])] [])
theorem gVRSeq_eq (l : List CV) : bodyK Tryd.prog (EVRSeq) 40 false Tryd.f14 [.cl (.slg 3 l)] [] = gVRSeq l := by kernel_rfl
end Go.Proofs.YtfkpjbbkdkcdcabDoorA

namespace Go.Proofs.YtfkpjbbkdkcdcabDoorA
noncomputable def lpVFew_4s (again : (List CV) -> Int -> Int -> Option Out) (k0 : Option Out) (k1 : Option Out) (v1 : List CV) (v2 : Int) (v3 : Int) : Option Out :=
 cond (decide (v3 < v2)) (
  getK v1 v3 fun e1 =>
  let e2 : CV := (cell1 e1).headD .nili
  let e3 : CV := (cell1 e1).tail.headD .nili
  let e4 : CV := (cell1 e1).tail.tail.headD .nili
  cond (okInt .i64 e2 && (okSli .u8 e3 && (okSlg 3 e4 && true))) (
  let i5 : Int := cvInt e2
  let l6 : List Int := cvSli e3
  let l7 : List CV := cvSlg e4
  cond (isT [.int .i64 i5, .sli .u8 l6, .slg 3 l7]) (
  let r8 : Bool := vSmall [.int .i64 i5, .sli .u8 l6, .slg 3 l7]
  cond (!r8) (
   k0)
  (
   let x9 : Int := IntKind.i64.wrap (v3 + 1)
   again v1 v2 x9)) none) none)
 (
  k1)
noncomputable def lpVFew_4 (k0 : Option Out) (k1 : Option Out) : Nat -> (List CV) -> Int -> Int -> Option Out := iterF (fun a => lpVFew_4s a k0 k1) (fun _ _ _ => none)
noncomputable def LVFew_4 : St -> (Ex -> St -> Option Out) -> Option Out := fun σ k => match σ with
 | ⟨[(q1, .cl (.slg q2 v1)), (q3, .cl (.int .i64 v2)), (q4, .cl (.int .i64 v3))], []⟩ => cond (Nat.beq q1 8 && Nat.beq q2 3 && Nat.beq q3 9 && Nat.beq q4 10) (shut (lpVFew_4 (k .ret ⟨[(2, .cl (.bool false))], []⟩) (k (.exit 0) ⟨[], []⟩) FUEL) v1 v2 v3) none
 | _ => none
noncomputable def EVFew : Env := {
 orc := fun g => cond (Nat.beq g 22) (SVSmall) (fun _ _ => Tree.fail)
 pre := fun g => cond (Nat.beq g 22) (preVSmall) (fun _ _ => true)
 byref := fun _ => []
 keep := fun _ => false
 live := fun r => cond (Nat.beq r 4) ([8, 9, 10]) ([])
 ren := fun _ => []
 glob := glVal
 nt := 18
 lp := fun r => cond (Nat.beq r 4) (some (LVFew_4)) (none)
 xl := fun r => cond (Nat.beq r 0) (some [2]) (cond (Nat.beq r 1) (some []) (none))
}
noncomputable def blpVFew_4 : Code := (Cd.fst (Cd.fst (Cd.snd (Cd.fst (Cd.snd (Cd.snd (Tryd.f4.body.getD .skip)))))))
theorem LVFew_4_ok : LpOk Tryd.prog (EVFew) 40 blpVFew_4 4 LVFew_4 := by
 intro σ k r h
 unfold LVFew_4 at h
 split at h
 ·replace h := cond_some h
  obtain ⟨hc, h⟩ := h
  simp only [Bool.and_eq_true, beq_prop, decide_eq_true_eq, Bool.not_eq_true'] at hc
  obtain ⟨⟨⟨rfl, rfl⟩, rfl⟩, rfl⟩ := hc
  rw [shut_eq] at h
  exact ⟨FUEL, iter_ok (F := fun n v1 v2 v3 => iterK n (codeK Tryd.prog (EVFew) 40 blpVFew_4) (head (EVFew) 4) ⟨[(8, .cl (.slg 3 v1)), (9, .cl (.int .i64 v2)), (10, .cl (.int .i64 v3))], []⟩ k) (Q := fun f => f _ _ _ = some r) rfl (fun n => by kernel_rfl) h⟩
 ·cases h
theorem loopsVFew : ∀ c, Tryd.f4.body = some c -> LoopsOk Tryd.prog (EVFew) 40 c := by
 intro c hc
 cases hc
 exact ⟨trivial, ⟨⟨trivial, ⟨⟨trivial, trivial, jn_none rfl⟩, trivial, jn_none rfl⟩, jn_none rfl⟩, ⟨⟨trivial, ⟨⟨trivial, ⟨⟨trivial, trivial, jn_none rfl⟩, ⟨⟨trivial, ⟨trivial, ⟨⟨trivial, trivial, jn_none rfl⟩, trivial, jn_none rfl⟩, jn_none rfl⟩, jn_none rfl⟩, trivial, jn_none rfl⟩, jn_none rfl⟩, jn_none rfl⟩, lp_some rfl (LVFew_4_ok)⟩, jn_none rfl⟩, ⟨trivial, trivial, jn_none rfl⟩, jn_none rfl⟩, jn_none rfl⟩, jn_none rfl⟩
noncomputable def gVFew (l : List CV) : Option Out :=
 cond (decide ((10 : Int) < ((l.length : Nat) : Int))) (
  some (.ret [.cl (.bool false)] []))
 (
  shut (lpVFew_4
  (
   some (.ret [.cl (.bool false)] []))
  (
   some (.ret [.cl (.bool true)] []))
  FUEL) l ((l.length : Nat) : Int) 0)
theorem gVFew_eq (l : List CV) : bodyK Tryd.prog (EVFew) 40 false Tryd.f4 [.cl (.slg 3 l)] [] = gVFew l := by kernel_rfl
end Go.Proofs.YtfkpjbbkdkcdcabDoorA

namespace Go.Proofs.YtfkpjbbkdkcdcabDoorA
noncomputable def EVAwake : Env := {
 orc := fun g => cond (Nat.beq g 6) (SVIntOf) (cond (Nat.beq g 7) (SVInt) (cond (Nat.beq g 12) (SR1Same) (cond (Nat.beq g 13) (SRSame) (cond (Nat.beq g 23) (SVNull) (cond (Nat.beq g 24) (SVSet) (fun _ _ => Tree.fail))))))
 pre := fun g => cond (Nat.beq g 6) (preVIntOf) (cond (Nat.beq g 7) (preVInt) (cond (Nat.beq g 12) (preR1Same) (cond (Nat.beq g 13) (preRSame) (cond (Nat.beq g 23) (preVNull) (cond (Nat.beq g 24) (preVSet) (fun _ _ => true))))))
 byref := fun _ => []
 keep := fun _ => false
 live := fun _ => []
 ren := fun _ => []
 glob := glVal
 nt := 49
 lp := fun _ => none
 xl := fun r => cond (Nat.beq r 0) (some [0]) (none)
}
theorem loopsVAwake : ∀ c, Tryd.f5.body = some c -> LoopsOk Tryd.prog (EVAwake) 40 c := by
 intro c hc
 cases hc
 exact ⟨trivial, ⟨trivial, ⟨trivial, ⟨trivial, trivial, jn_none rfl⟩, jn_none rfl⟩, jn_none rfl⟩, jn_none rfl⟩
noncomputable def gVAwake  : Option Out :=
 cond (isS [.int .i64 5, .sli .u8 [], .slg 3 []]) (
 let r2 : Int := (vIntOf 5 [] []).2
 cond (stI64 2) (
 let r3 : List Int := vInt 2
 let r4 : List CV := noKids
 cond (stI64 1) (
 let r5 : List Int := vInt 1
 let r6 : List CV := noKids
 cond (setOk ([.agg [.int .i64 2, .sli .u8 r3, .slg 3 r4], .agg [.int .i64 2, .sli .u8 r5, .slg 3 r6]])) (
 let r9 : List CV := (vSet ([.agg [.int .i64 2, .sli .u8 r3, .slg 3 r4], .agg [.int .i64 2, .sli .u8 r5, .slg 3 r6]])).2.1
 let r10 : Int := (vSet ([.agg [.int .i64 2, .sli .u8 r3, .slg 3 r4], .agg [.int .i64 2, .sli .u8 r5, .slg 3 r6]])).2.2
 cond (stI64 128) (
 let r11 : List Int := vInt 128
 cond (lenOk r11) (
 let r13 : Bool := listSame r11 [0, 128]
 cond (r13) (
  cond (stI64 (-1)) (
  let r14 : List Int := vInt (-1)
  cond (lenOk r14) (
  let r16 : Bool := listSame r14 [255]
  cond (r16) (
   cond (decide (r2 = 4)) (
    cond (decide (r10 = 0)) (
     cond (decide (((r9.length : Nat) : Int) = 2)) (
      cond (decide ((0 : Int) < ((r9.length : Nat) : Int))) (
      Option.bind (r9[0]?) fun (e17 : CV) =>
      let e18 : CV := (cell1 e17).headD .nili
      let e19 : CV := (cell1 e17).tail.headD .nili
      let e20 : CV := (cell1 e17).tail.tail.headD .nili
      cond (okInt .i64 e18 && (okSli .u8 e19 && (okSlg 3 e20 && true))) (
      let i21 : Int := cvInt e18
      let l22 : List Int := cvSli e19
      let l23 : List CV := cvSlg e20
      cond (stI64 1) (
      let r24 : List Int := vInt 1
      let r25 : List CV := noKids
      cond (isN [.int .i64 i21, .sli .u8 l22, .slg 3 l23] && isN [.int .i64 2, .sli .u8 r24, .slg 3 r25]) (
      let r26 : Bool := ndSame [.int .i64 i21, .sli .u8 l22, .slg 3 l23] [.int .i64 2, .sli .u8 r24, .slg 3 r25]
      some (.ret [.cl (.bool r26)] [])) none) none) none) none)
     (
      some (.ret [.cl (.bool false)] [])))
    (
     some (.ret [.cl (.bool false)] [])))
   (
    some (.ret [.cl (.bool false)] [])))
  (
   some (.ret [.cl (.bool false)] []))) none) none)
 (
  some (.ret [.cl (.bool false)] []))) none) none) none) none) none) none
theorem gVAwake_eq  : bodyK Tryd.prog (EVAwake) 40 false Tryd.f5 [] [] = gVAwake  := by kernel_rfl
end Go.Proofs.YtfkpjbbkdkcdcabDoorA

namespace Go.Proofs.YtfkpjbbkdkcdcabDoorA
noncomputable def EVLBack : Env := {
 orc := fun g => cond (Nat.beq g 4) (SVFew) (cond (Nat.beq g 5) (SVAwake) (cond (Nat.beq g 6) (SVIntOf) (cond (Nat.beq g 7) (SVInt) (cond (Nat.beq g 8) (SVBytesOf) (cond (Nat.beq g 9) (SVBytes) (cond (Nat.beq g 10) (SVKids) (cond (Nat.beq g 11) (SVSeq) (cond (Nat.beq g 12) (SR1Same) (cond (Nat.beq g 13) (SRSame) (cond (Nat.beq g 14) (SVRSeq) (cond (Nat.beq g 15) (SVUtf8) (cond (Nat.beq g 16) (SVUtf8Of) (cond (Nat.beq g 17) (SVId) (cond (Nat.beq g 18) (SVIdOf) (cond (Nat.beq g 19) (SR2Same) (cond (Nat.beq g 20) (SVTime) (cond (Nat.beq g 21) (SVTimeOf) (fun _ _ => Tree.fail))))))))))))))))))
 pre := fun g => cond (Nat.beq g 4) (preVFew) (cond (Nat.beq g 5) (preVAwake) (cond (Nat.beq g 6) (preVIntOf) (cond (Nat.beq g 7) (preVInt) (cond (Nat.beq g 8) (preVBytesOf) (cond (Nat.beq g 9) (preVBytes) (cond (Nat.beq g 10) (preVKids) (cond (Nat.beq g 11) (preVSeq) (cond (Nat.beq g 12) (preR1Same) (cond (Nat.beq g 13) (preRSame) (cond (Nat.beq g 14) (preVRSeq) (cond (Nat.beq g 15) (preVUtf8) (cond (Nat.beq g 16) (preVUtf8Of) (cond (Nat.beq g 17) (preVId) (cond (Nat.beq g 18) (preVIdOf) (cond (Nat.beq g 19) (preR2Same) (cond (Nat.beq g 20) (preVTime) (cond (Nat.beq g 21) (preVTimeOf) (fun _ _ => true))))))))))))))))))
 byref := fun _ => []
 keep := fun _ => false
 live := fun _ => []
 ren := fun _ => []
 glob := glVal
 nt := 154
 lp := fun _ => none
 xl := fun r => cond (Nat.beq r 0) (some [10]) (none)
}
theorem loopsVLBack : ∀ c, Tryd.f3.body = some c -> LoopsOk Tryd.prog (EVLBack) 40 c := by
 intro c hc
 cases hc
 exact ⟨trivial, ⟨⟨trivial, ⟨⟨trivial, trivial, jn_none rfl⟩, trivial, jn_none rfl⟩, jn_none rfl⟩, ⟨trivial, ⟨trivial, ⟨trivial, ⟨⟨trivial, ⟨⟨trivial, trivial, jn_none rfl⟩, trivial, jn_none rfl⟩, jn_none rfl⟩, ⟨⟨trivial, ⟨trivial, ⟨⟨trivial, ⟨trivial, ⟨⟨trivial, trivial, jn_none rfl⟩, trivial, jn_none rfl⟩, jn_none rfl⟩, jn_none rfl⟩, trivial, jn_none rfl⟩, jn_none rfl⟩, jn_none rfl⟩, ⟨⟨trivial, ⟨trivial, ⟨⟨trivial, ⟨trivial, ⟨⟨trivial, trivial, jn_none rfl⟩, trivial, jn_none rfl⟩, jn_none rfl⟩, jn_none rfl⟩, trivial, jn_none rfl⟩, jn_none rfl⟩, jn_none rfl⟩, ⟨trivial, ⟨⟨trivial, ⟨⟨trivial, trivial, jn_none rfl⟩, trivial, jn_none rfl⟩, jn_none rfl⟩, ⟨trivial, ⟨trivial, trivial, jn_none rfl⟩, jn_none rfl⟩, jn_none rfl⟩, jn_none rfl⟩, jn_none rfl⟩, jn_none rfl⟩, jn_none rfl⟩, jn_none rfl⟩, jn_none rfl⟩, jn_none rfl⟩, jn_none rfl⟩, jn_none rfl⟩
noncomputable def gVLBack (n : Int) (b : List Int) (o : List Int) (t : Int) (l : List CV) : Option Out :=
 cond (decide ((1000 : Int) < ((b.length : Nat) : Int))) (
  let r1 : Bool := true
  some (.ret [.cl (.bool r1)] []))
 (
  cond (decide ((50 : Int) < ((o.length : Nat) : Int))) (
   let r2 : Bool := true
   some (.ret [.cl (.bool r2)] []))
  (
   cond (isTs l) (
   let r3 : Bool := vFew l
   cond (!r3) (
    let r4 : Bool := true
    some (.ret [.cl (.bool r4)] []))
   (
    cond (stI64 n) (
    let r5 : List Int := vInt n
    let r6 : List CV := noKids
    cond (isS [.int .i64 2, .sli .u8 r5, .slg 3 r6]) (
    let r7 : Int := (vIntOf 2 r5 r6).1
    let r8 : Int := (vIntOf 2 r5 r6).2
    cond (lenOk b) (
    let r9 : List CV := noKids
    cond (isS [.int .i64 4, .sli .u8 b, .slg 3 r9]) (
    let r10 : List Int := (vBytesOf 4 b r9).1
    let r11 : Int := (vBytesOf 4 b r9).2
    cond (lenOkC l) (
    let r12 : List Int := noInts
    cond (lenOkC l) (
    let r13 : List CV := (vKids 48 48 r12 l).1
    let r14 : Int := (vKids 48 48 r12 l).2
    cond (!decide (r8 = 0)) (
     some (.ret [.cl (.bool false)] []))
    (
     cond (!decide (r7 = n)) (
      some (.ret [.cl (.bool false)] []))
     (
      cond (!decide (r11 = 0)) (
       some (.ret [.cl (.bool false)] []))
      (
       cond (lenOk r10) (
       let r15 : Bool := listSame r10 b
       cond (!r15) (
        some (.ret [.cl (.bool false)] []))
       (
        cond (!decide (r14 = 0)) (
         some (.ret [.cl (.bool false)] []))
        (
         cond (lenOkC r13) (
         let r16 : List Int := noInts
         cond (lenOkC l) (
         let r17 : List Int := noInts
         cond (isN [.int .i64 48, .sli .u8 r16, .slg 3 r13] && isN [.int .i64 48, .sli .u8 r17, .slg 3 l]) (
         let r18 : Bool := ndSame [.int .i64 48, .sli .u8 r16, .slg 3 r13] [.int .i64 48, .sli .u8 r17, .slg 3 l]
         cond (!r18) (
          some (.ret [.cl (.bool false)] []))
         (
          let s19 : ByteArray := strOf b
          cond (utfOk s19) (
          let r20 : Int := (vMade 12 (bytesOf s19)).1
          let r21 : List Int := (vMade 12 (bytesOf s19)).2.1
          let r22 : List CV := noKids
          let r23 : Int := (vMade 12 (bytesOf s19)).2.2
          cond (decide (r23 = 0)) (
           cond (isS [.int .i64 r20, .sli .u8 r21, .slg 3 r22]) (
           let r24 : ByteArray := (vUtfOf r20 r21 r22).1
           let r25 : Int := (vUtfOf r20 r21 r22).2
           cond (!decide (r25 = 0)) (
            some (.ret [.cl (.bool false)] []))
           (
            let s26 : ByteArray := strOf b
            cond (!(r24.toList == s26.toList)) (
             some (.ret [.cl (.bool false)] []))
            (
             cond (idOk o) (
             let r27 : Int := (vMade 6 (oidBytes o)).1
             let r28 : List Int := (vMade 6 (oidBytes o)).2.1
             let r29 : List CV := noKids
             let r30 : Int := (vMade 6 (oidBytes o)).2.2
             cond (decide (r30 = 0)) (
              cond (isS [.int .i64 r27, .sli .u8 r28, .slg 3 r29]) (
              let r31 : List Int := (vIdOf r27 r28 r29).1
              let r32 : Int := (vIdOf r27 r28 r29).2
              cond (!decide (r32 = 0)) (
               some (.ret [.cl (.bool false)] []))
              (
               cond (lenOk r31) (
               let r33 : Bool := listSame r31 o
               cond (!r33) (
                some (.ret [.cl (.bool false)] []))
               (
                cond (stI64 t) (
                let r34 : Int := (vMade 24 (bytesOf (stText t))).1
                let r35 : List Int := (vMade 24 (bytesOf (stText t))).2.1
                let r36 : List CV := noKids
                let r37 : Int := (vMade 24 (bytesOf (stText t))).2.2
                cond (!decide (r37 = 0)) (
                 let r38 : Bool := true
                 some (.ret [.cl (.bool r38)] []))
                (
                 cond (isS [.int .i64 r34, .sli .u8 r35, .slg 3 r36]) (
                 let r39 : Int := (vTimeOf r34 r35 r36).1
                 let r40 : Int := (vTimeOf r34 r35 r36).2
                 cond (decide (r40 = 0)) (
                  cond (decide (r39 = t)) (
                   let r41 : Bool := true
                   some (.ret [.cl (.bool r41)] []))
                  (
                   some (.ret [.cl (.bool false)] [])))
                 (
                  some (.ret [.cl (.bool false)] []))) none)) none)) none)) none)
             (
              cond (stI64 t) (
              let r42 : Int := (vMade 24 (bytesOf (stText t))).1
              let r43 : List Int := (vMade 24 (bytesOf (stText t))).2.1
              let r44 : List CV := noKids
              let r45 : Int := (vMade 24 (bytesOf (stText t))).2.2
              cond (!decide (r45 = 0)) (
               let r46 : Bool := true
               some (.ret [.cl (.bool r46)] []))
              (
               cond (isS [.int .i64 r42, .sli .u8 r43, .slg 3 r44]) (
               let r47 : Int := (vTimeOf r42 r43 r44).1
               let r48 : Int := (vTimeOf r42 r43 r44).2
               cond (decide (r48 = 0)) (
                cond (decide (r47 = t)) (
                 let r49 : Bool := true
                 some (.ret [.cl (.bool r49)] []))
                (
                 some (.ret [.cl (.bool false)] [])))
               (
                some (.ret [.cl (.bool false)] []))) none)) none)) none))) none)
          (
           cond (idOk o) (
           let r50 : Int := (vMade 6 (oidBytes o)).1
           let r51 : List Int := (vMade 6 (oidBytes o)).2.1
           let r52 : List CV := noKids
           let r53 : Int := (vMade 6 (oidBytes o)).2.2
           cond (decide (r53 = 0)) (
            cond (isS [.int .i64 r50, .sli .u8 r51, .slg 3 r52]) (
            let r54 : List Int := (vIdOf r50 r51 r52).1
            let r55 : Int := (vIdOf r50 r51 r52).2
            cond (!decide (r55 = 0)) (
             some (.ret [.cl (.bool false)] []))
            (
             cond (lenOk r54) (
             let r56 : Bool := listSame r54 o
             cond (!r56) (
              some (.ret [.cl (.bool false)] []))
             (
              cond (stI64 t) (
              let r57 : Int := (vMade 24 (bytesOf (stText t))).1
              let r58 : List Int := (vMade 24 (bytesOf (stText t))).2.1
              let r59 : List CV := noKids
              let r60 : Int := (vMade 24 (bytesOf (stText t))).2.2
              cond (!decide (r60 = 0)) (
               let r61 : Bool := true
               some (.ret [.cl (.bool r61)] []))
              (
               cond (isS [.int .i64 r57, .sli .u8 r58, .slg 3 r59]) (
               let r62 : Int := (vTimeOf r57 r58 r59).1
               let r63 : Int := (vTimeOf r57 r58 r59).2
               cond (decide (r63 = 0)) (
                cond (decide (r62 = t)) (
                 let r64 : Bool := true
                 some (.ret [.cl (.bool r64)] []))
                (
                 some (.ret [.cl (.bool false)] [])))
               (
                some (.ret [.cl (.bool false)] []))) none)) none)) none)) none)
           (
            cond (stI64 t) (
            let r65 : Int := (vMade 24 (bytesOf (stText t))).1
            let r66 : List Int := (vMade 24 (bytesOf (stText t))).2.1
            let r67 : List CV := noKids
            let r68 : Int := (vMade 24 (bytesOf (stText t))).2.2
            cond (!decide (r68 = 0)) (
             let r69 : Bool := true
             some (.ret [.cl (.bool r69)] []))
            (
             cond (isS [.int .i64 r65, .sli .u8 r66, .slg 3 r67]) (
             let r70 : Int := (vTimeOf r65 r66 r67).1
             let r71 : Int := (vTimeOf r65 r66 r67).2
             cond (decide (r71 = 0)) (
              cond (decide (r70 = t)) (
               let r72 : Bool := true
               some (.ret [.cl (.bool r72)] []))
              (
               some (.ret [.cl (.bool false)] [])))
             (
              some (.ret [.cl (.bool false)] []))) none)) none)) none)) none)) none) none) none))) none)))) none) none) none) none) none) none)) none))
theorem gVLBack_eq (n : Int) (b : List Int) (o : List Int) (t : Int) (l : List CV) : bodyK Tryd.prog (EVLBack) 40 false Tryd.f3 [.cl (.int .i64 n), .cl (.sli .u8 b), .cl (.sli .u32 o), .cl (.int .i64 t), .cl (.slg 3 l)] [] = gVLBack n b o t l := by kernel_rfl
end Go.Proofs.YtfkpjbbkdkcdcabDoorA

namespace Go.Proofs.YtfkpjbbkdkcdcabDoorA
noncomputable def lpONums_0s (l : Nat) (again : (List Int) -> Option Out) (k0 : Int -> Int -> (List Int) -> Int -> Int -> Int -> (List Int) -> Int -> Int -> Int -> Int -> Int -> Int -> Bool -> (List Int) -> Option Out) (k1 : Int -> Int -> (List Int) -> Int -> Int -> Int -> (List Int) -> Int -> Int -> Int -> Int -> Int -> Int -> Bool -> Int -> Bool -> (List Int) -> Option Out) (k2 : (List Int) -> Int -> (List Int) -> Option Out) (v1 : List Int) : Option Out :=
 cond (decide ((0 : Int) < ((v1.length : Nat) : Int))) (
  cond (bytesOk v1) (
  let r1 : Int := (oidNumber v1).1
  let r2 : Int := (oidNumber v1).2
  cond (Nat.beq l l) (
  yldO [.int .u32 r1, .bool (decide ((0 : Int) < r2))] (
   k0 r1 r2 v1 ((v1.length : Nat) : Int) r1 r2 v1 r1 r2 r1 r2 r1 r2 (decide ((0 : Int) < r2)) v1)
  (
   cond (decide (r2 = 0)) (
    k1 r1 r2 v1 ((v1.length : Nat) : Int) r1 r2 v1 r1 r2 r1 r2 r1 r2 (decide ((0 : Int) < r2)) r2 (decide (r2 = 0)) v1)
   (
    cond (decide ((0 : Int) <= r2)) (
    cond (decide (r2 <= ((v1.length : Nat) : Int))) (
    let l3 : List Int := List.drop (Int.toNat r2) v1
    again l3) none) none))) none) none)
 (
  k2 v1 ((v1.length : Nat) : Int) v1)
noncomputable def lpONums_0 (l : Nat) (k0 : Int -> Int -> (List Int) -> Int -> Int -> Int -> (List Int) -> Int -> Int -> Int -> Int -> Int -> Int -> Bool -> (List Int) -> Option Out) (k1 : Int -> Int -> (List Int) -> Int -> Int -> Int -> (List Int) -> Int -> Int -> Int -> Int -> Int -> Int -> Bool -> Int -> Bool -> (List Int) -> Option Out) (k2 : (List Int) -> Int -> (List Int) -> Option Out) : Nat -> (List Int) -> Option Out
 | 0 => fun _ => none
 | n + 1 => lpONums_0s l (lpONums_0 l k0 k1 k2 n) k0 k1 k2
noncomputable def LONums_0 (l : Nat) : St -> (Ex -> St -> Option Out) -> Option Out := fun σ k => match σ with
 | ⟨[(q1, .cl (.fn (.yield q2) [] [])), (q3, .ptr q4 q5 q6)], [(q7, ⟨.var [.cl (.sli .u8 v1)], false⟩)]⟩ => cond (Nat.beq q1 0 && Nat.beq q3 1 && Nat.beq q4 0 && Nat.beq q5 0 && Nat.beq q6 0 && Nat.beq q7 0 && Nat.beq l q2) (shut (lpONums_0 l (fun y1 y2 y3 y4 y5 y6 y7 y8 y9 y10 y11 y12 y13 y14 y15 => k .ret ⟨[(0, .cl (.fn (.yield l) [] [])), (1, .ptr 0 0 0), (3, .cl (.int .u32 y1)), (4, .cl (.int .i64 y2)), (5, .cl (.sli .u8 y3)), (6, .cl (.int .i64 y4)), (7, .cl (.bool true)), (8, .tup [.cl (.int .u32 y5), .cl (.int .i64 y6)]), (9, .cl (.sli .u8 y7)), (10, .tup [.cl (.int .u32 y8), .cl (.int .i64 y9)]), (11, .cl (.int .u32 y10)), (12, .cl (.int .i64 y11)), (13, .cl (.fn (.yield l) [] [])), (14, .cl (.int .u32 y12)), (15, .cl (.int .i64 y13)), (16, .cl (.bool y14)), (17, .cl (.bool false)), (18, .cl (.bool true)), (19, .cl (.bool true)), (20, .tup []), (21, .tup []), (22, .cl (.bool true))], [(0, ⟨.var [.cl (.sli .u8 y15)], false⟩)]⟩) (fun y1 y2 y3 y4 y5 y6 y7 y8 y9 y10 y11 y12 y13 y14 y15 y16 y17 => k .ret ⟨[(0, .cl (.fn (.yield l) [] [])), (1, .ptr 0 0 0), (3, .cl (.int .u32 y1)), (4, .cl (.int .i64 y2)), (5, .cl (.sli .u8 y3)), (6, .cl (.int .i64 y4)), (7, .cl (.bool true)), (8, .tup [.cl (.int .u32 y5), .cl (.int .i64 y6)]), (9, .cl (.sli .u8 y7)), (10, .tup [.cl (.int .u32 y8), .cl (.int .i64 y9)]), (11, .cl (.int .u32 y10)), (12, .cl (.int .i64 y11)), (13, .cl (.fn (.yield l) [] [])), (14, .cl (.int .u32 y12)), (15, .cl (.int .i64 y13)), (16, .cl (.bool y14)), (17, .cl (.bool true)), (18, .cl (.bool false)), (19, .cl (.bool false)), (20, .cl (.int .i64 y15)), (21, .cl (.bool y16)), (22, .cl (.bool true))], [(0, ⟨.var [.cl (.sli .u8 y17)], false⟩)]⟩) (fun y1 y2 y3 => k (.exit 0) ⟨[(0, .cl (.fn (.yield l) [] [])), (1, .ptr 0 0 0), (5, .cl (.sli .u8 y1)), (6, .cl (.int .i64 y2)), (7, .cl (.bool false))], [(0, ⟨.var [.cl (.sli .u8 y3)], false⟩)]⟩) FUEL) v1) none
 | _ => none
noncomputable def EONums (l : Nat) : Env := {
 orc := fun g => cond (Nat.beq g 62) (SONumber) (fun _ _ => Tree.fail)
 pre := fun g => cond (Nat.beq g 62) (preONumber) (fun _ _ => true)
 byref := fun _ => []
 keep := fun _ => false
 live := fun r => cond (Nat.beq r 0) ([0, 1]) ([])
 ren := fun _ => []
 glob := glVal
 nt := 26
 lp := fun r => cond (Nat.beq r 0) (some (LONums_0 l)) (none)
 rg := false
 yn := l
 yl := fun r => cond (Nat.beq r 2) (some 4) (none)
}
noncomputable def blpONums_0 : Code := (Cd.fst (Cd.fst (Tryd.f61.body.getD .skip)))
theorem lpONums_0_step (l : Nat) (k : Ex -> St -> Option Out) (n : Nat) (v1 : List Int) : iterK (n + 1) (codeK Tryd.prog (EONums l) 40 blpONums_0) (head (EONums l) 0) ⟨[(0, .cl (.fn (.yield l) [] [])), (1, .ptr 0 0 0)], [(0, ⟨.var [.cl (.sli .u8 v1)], false⟩)]⟩ k = lpONums_0s l (fun v1 => iterK n (codeK Tryd.prog (EONums l) 40 blpONums_0) (head (EONums l) 0) ⟨[(0, .cl (.fn (.yield l) [] [])), (1, .ptr 0 0 0)], [(0, ⟨.var [.cl (.sli .u8 v1)], false⟩)]⟩ k) (fun y1 y2 y3 y4 y5 y6 y7 y8 y9 y10 y11 y12 y13 y14 y15 => k .ret ⟨[(0, .cl (.fn (.yield l) [] [])), (1, .ptr 0 0 0), (3, .cl (.int .u32 y1)), (4, .cl (.int .i64 y2)), (5, .cl (.sli .u8 y3)), (6, .cl (.int .i64 y4)), (7, .cl (.bool true)), (8, .tup [.cl (.int .u32 y5), .cl (.int .i64 y6)]), (9, .cl (.sli .u8 y7)), (10, .tup [.cl (.int .u32 y8), .cl (.int .i64 y9)]), (11, .cl (.int .u32 y10)), (12, .cl (.int .i64 y11)), (13, .cl (.fn (.yield l) [] [])), (14, .cl (.int .u32 y12)), (15, .cl (.int .i64 y13)), (16, .cl (.bool y14)), (17, .cl (.bool false)), (18, .cl (.bool true)), (19, .cl (.bool true)), (20, .tup []), (21, .tup []), (22, .cl (.bool true))], [(0, ⟨.var [.cl (.sli .u8 y15)], false⟩)]⟩) (fun y1 y2 y3 y4 y5 y6 y7 y8 y9 y10 y11 y12 y13 y14 y15 y16 y17 => k .ret ⟨[(0, .cl (.fn (.yield l) [] [])), (1, .ptr 0 0 0), (3, .cl (.int .u32 y1)), (4, .cl (.int .i64 y2)), (5, .cl (.sli .u8 y3)), (6, .cl (.int .i64 y4)), (7, .cl (.bool true)), (8, .tup [.cl (.int .u32 y5), .cl (.int .i64 y6)]), (9, .cl (.sli .u8 y7)), (10, .tup [.cl (.int .u32 y8), .cl (.int .i64 y9)]), (11, .cl (.int .u32 y10)), (12, .cl (.int .i64 y11)), (13, .cl (.fn (.yield l) [] [])), (14, .cl (.int .u32 y12)), (15, .cl (.int .i64 y13)), (16, .cl (.bool y14)), (17, .cl (.bool true)), (18, .cl (.bool false)), (19, .cl (.bool false)), (20, .cl (.int .i64 y15)), (21, .cl (.bool y16)), (22, .cl (.bool true))], [(0, ⟨.var [.cl (.sli .u8 y17)], false⟩)]⟩) (fun y1 y2 y3 => k (.exit 0) ⟨[(0, .cl (.fn (.yield l) [] [])), (1, .ptr 0 0 0), (5, .cl (.sli .u8 y1)), (6, .cl (.int .i64 y2)), (7, .cl (.bool false))], [(0, ⟨.var [.cl (.sli .u8 y3)], false⟩)]⟩) v1 := by kernel_rfl
theorem lpONums_0_eq (l : Nat) (k : Ex -> St -> Option Out) : ∀ (n : Nat), ∀ (v1 : List Int), iterK n (codeK Tryd.prog (EONums l) 40 blpONums_0) (head (EONums l) 0) ⟨[(0, .cl (.fn (.yield l) [] [])), (1, .ptr 0 0 0)], [(0, ⟨.var [.cl (.sli .u8 v1)], false⟩)]⟩ k = lpONums_0 l (fun y1 y2 y3 y4 y5 y6 y7 y8 y9 y10 y11 y12 y13 y14 y15 => k .ret ⟨[(0, .cl (.fn (.yield l) [] [])), (1, .ptr 0 0 0), (3, .cl (.int .u32 y1)), (4, .cl (.int .i64 y2)), (5, .cl (.sli .u8 y3)), (6, .cl (.int .i64 y4)), (7, .cl (.bool true)), (8, .tup [.cl (.int .u32 y5), .cl (.int .i64 y6)]), (9, .cl (.sli .u8 y7)), (10, .tup [.cl (.int .u32 y8), .cl (.int .i64 y9)]), (11, .cl (.int .u32 y10)), (12, .cl (.int .i64 y11)), (13, .cl (.fn (.yield l) [] [])), (14, .cl (.int .u32 y12)), (15, .cl (.int .i64 y13)), (16, .cl (.bool y14)), (17, .cl (.bool false)), (18, .cl (.bool true)), (19, .cl (.bool true)), (20, .tup []), (21, .tup []), (22, .cl (.bool true))], [(0, ⟨.var [.cl (.sli .u8 y15)], false⟩)]⟩) (fun y1 y2 y3 y4 y5 y6 y7 y8 y9 y10 y11 y12 y13 y14 y15 y16 y17 => k .ret ⟨[(0, .cl (.fn (.yield l) [] [])), (1, .ptr 0 0 0), (3, .cl (.int .u32 y1)), (4, .cl (.int .i64 y2)), (5, .cl (.sli .u8 y3)), (6, .cl (.int .i64 y4)), (7, .cl (.bool true)), (8, .tup [.cl (.int .u32 y5), .cl (.int .i64 y6)]), (9, .cl (.sli .u8 y7)), (10, .tup [.cl (.int .u32 y8), .cl (.int .i64 y9)]), (11, .cl (.int .u32 y10)), (12, .cl (.int .i64 y11)), (13, .cl (.fn (.yield l) [] [])), (14, .cl (.int .u32 y12)), (15, .cl (.int .i64 y13)), (16, .cl (.bool y14)), (17, .cl (.bool true)), (18, .cl (.bool false)), (19, .cl (.bool false)), (20, .cl (.int .i64 y15)), (21, .cl (.bool y16)), (22, .cl (.bool true))], [(0, ⟨.var [.cl (.sli .u8 y17)], false⟩)]⟩) (fun y1 y2 y3 => k (.exit 0) ⟨[(0, .cl (.fn (.yield l) [] [])), (1, .ptr 0 0 0), (5, .cl (.sli .u8 y1)), (6, .cl (.int .i64 y2)), (7, .cl (.bool false))], [(0, ⟨.var [.cl (.sli .u8 y3)], false⟩)]⟩) n v1
 | 0 => by intros; rfl
 | n + 1 => by
  intros
  rw [lpONums_0_step]
  have ih := lpONums_0_eq l k n
  simp only [lpONums_0, ih]
theorem LONums_0_ok (l : Nat) : ∀ (σ : St) (k : Ex -> St -> Option Out) (r : Out), LONums_0 l σ k = some r -> ∃ n, iterK n (codeK Tryd.prog (EONums l) 40 blpONums_0) (head (EONums l) 0) σ k = some r := by
 intro σ k r h
 unfold LONums_0 at h
 split at h
 ·replace h := cond_some h
  obtain ⟨hc, h⟩ := h
  simp only [Bool.and_eq_true, beq_prop, decide_eq_true_eq, Bool.not_eq_true'] at hc
  obtain ⟨⟨⟨⟨⟨⟨rfl, rfl⟩, rfl⟩, rfl⟩, rfl⟩, rfl⟩, rfl⟩ := hc
  rw [shut_eq] at h
  exact ⟨FUEL, (lpONums_0_eq l k FUEL _ ).trans h⟩
 ·cases h
theorem loopsONums (l : Nat) : ∀ c, Tryd.f61.body = some c -> LoopsOk Tryd.prog (EONums l) 40 c := by
 intro c hc
 cases hc
 exact ⟨⟨⟨trivial, ⟨trivial, trivial, jn_none rfl⟩, jn_none rfl⟩, ⟨trivial, ⟨⟨trivial, ⟨trivial, trivial, jn_none rfl⟩, jn_none rfl⟩, trivial, jn_none rfl⟩, jn_none rfl⟩, jn_none rfl⟩, lp_some rfl (LONums_0_ok l)⟩
noncomputable def gONums (l : Nat) (b : List Int) : Option Out :=
 cond (Nat.beq l l) (
 shut (lpONums_0 l
 (fun (y1 : Int) (y2 : Int) (y3 : List Int) (y4 : Int) (y5 : Int) (y6 : Int) (y7 : List Int) (y8 : Int) (y9 : Int) (y10 : Int) (y11 : Int) (y12 : Int) (y13 : Int) (y14 : Bool) (y15 : List Int) =>
  some (.ret [] [some ⟨.var [.cl (.sli .u8 y15)], false⟩]))
 (fun (y16 : Int) (y17 : Int) (y18 : List Int) (y19 : Int) (y20 : Int) (y21 : Int) (y22 : List Int) (y23 : Int) (y24 : Int) (y25 : Int) (y26 : Int) (y27 : Int) (y28 : Int) (y29 : Bool) (y30 : Int) (y31 : Bool) (y32 : List Int) =>
  some (.ret [] [some ⟨.var [.cl (.sli .u8 y32)], false⟩]))
 (fun (y33 : List Int) (y34 : Int) (y35 : List Int) =>
  some (.ret [] [some ⟨.var [.cl (.sli .u8 y35)], false⟩]))
 FUEL) b) none
theorem gONums_eq (l : Nat) (b : List Int) : bodyK Tryd.prog (EONums l) 40 false Tryd.f61 [.cl (.fn (.yield l) [] []), .ptr 0 0 0] [⟨.var [.cl (.sli .u8 b)], false⟩] = gONums l b := by kernel_rfl
end Go.Proofs.YtfkpjbbkdkcdcabDoorA
