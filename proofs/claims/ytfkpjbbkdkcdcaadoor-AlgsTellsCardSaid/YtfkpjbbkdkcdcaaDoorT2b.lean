/-
 What the reading of apostille/apostilleref04.Less comes to, printed by a program. Conditions: none.
-/
import Derived.Test.YtfkpjbbkdkcdcaaDoorT1
set_option linter.unusedVariables false
set_option linter.unusedSimpArgs false
set_option maxRecDepth 100000
namespace Go.Proofs.YtfkpjbbkdkcdcaaDoorA
end Go.Proofs.YtfkpjbbkdkcdcaaDoorA

namespace Go.Proofs.YtfkpjbbkdkcdcaaDoorA
noncomputable def EUWord : Env := {
 orc := fun _ => fun _ _ => Tree.fail
 pre := fun _ => fun _ _ => true
 byref := fun _ => []
 keep := fun _ => false
 live := fun _ => []
 ren := fun _ => []
 glob := glVal
 nt := 71
 lp := fun _ => none
}
theorem loopsUWord : ∀ c, Tryd.f168.body = some c -> LoopsOk Tryd.prog (EUWord) 40 c := by
 intro c hc
 cases hc
 exact ⟨trivial, ⟨⟨⟨trivial, trivial, jn_none rfl⟩, trivial, jn_none rfl⟩, ⟨trivial, trivial, jn_none rfl⟩, jn_none rfl⟩, jn_none rfl⟩
noncomputable def gUWord (b : List Int) : Option Out :=
 cond (decide ((0 : Int) < ((b.length : Nat) : Int))) (
 Option.bind (b[0]?) fun (e1 : Int) =>
 let x2 : Int := IntKind.u64.wrap e1
 cond (decide ((1 : Int) < ((b.length : Nat) : Int))) (
 Option.bind (b[1]?) fun (e3 : Int) =>
 let x4 : Int := IntKind.u64.wrap e3
 let x5 : Int := IntKind.u64.wrap (x4 * 2 ^ 8)
 let x6 : Int := IntKind.u64.wrap ((BitVec.ofInt 64 x2 ||| BitVec.ofInt 64 x5).toNat)
 cond (decide ((2 : Int) < ((b.length : Nat) : Int))) (
 Option.bind (b[2]?) fun (e7 : Int) =>
 let x8 : Int := IntKind.u64.wrap e7
 let x9 : Int := IntKind.u64.wrap (x8 * 2 ^ 16)
 let x10 : Int := IntKind.u64.wrap ((BitVec.ofInt 64 x6 ||| BitVec.ofInt 64 x9).toNat)
 cond (decide ((3 : Int) < ((b.length : Nat) : Int))) (
 Option.bind (b[3]?) fun (e11 : Int) =>
 let x12 : Int := IntKind.u64.wrap e11
 let x13 : Int := IntKind.u64.wrap (x12 * 2 ^ 24)
 let x14 : Int := IntKind.u64.wrap ((BitVec.ofInt 64 x10 ||| BitVec.ofInt 64 x13).toNat)
 cond (decide ((4 : Int) < ((b.length : Nat) : Int))) (
 Option.bind (b[4]?) fun (e15 : Int) =>
 let x16 : Int := IntKind.u64.wrap e15
 let x17 : Int := IntKind.u64.wrap (x16 * 2 ^ 32)
 let x18 : Int := IntKind.u64.wrap ((BitVec.ofInt 64 x14 ||| BitVec.ofInt 64 x17).toNat)
 cond (decide ((5 : Int) < ((b.length : Nat) : Int))) (
 Option.bind (b[5]?) fun (e19 : Int) =>
 let x20 : Int := IntKind.u64.wrap e19
 let x21 : Int := IntKind.u64.wrap (x20 * 2 ^ 40)
 let x22 : Int := IntKind.u64.wrap ((BitVec.ofInt 64 x18 ||| BitVec.ofInt 64 x21).toNat)
 cond (decide ((6 : Int) < ((b.length : Nat) : Int))) (
 Option.bind (b[6]?) fun (e23 : Int) =>
 let x24 : Int := IntKind.u64.wrap e23
 let x25 : Int := IntKind.u64.wrap (x24 * 2 ^ 48)
 let x26 : Int := IntKind.u64.wrap ((BitVec.ofInt 64 x22 ||| BitVec.ofInt 64 x25).toNat)
 cond (decide ((7 : Int) < ((b.length : Nat) : Int))) (
 Option.bind (b[7]?) fun (e27 : Int) =>
 let x28 : Int := IntKind.u64.wrap e27
 let x29 : Int := IntKind.u64.wrap (x28 * 2 ^ 56)
 let x30 : Int := IntKind.u64.wrap ((BitVec.ofInt 64 x26 ||| BitVec.ofInt 64 x29).toNat)
 some (.ret [.cl (.int .u64 x30)] [])) none) none) none) none) none) none) none) none
theorem gUWord_eq (b : List Int) : bodyK Tryd.prog (EUWord) 40 false Tryd.f168 [.cl (.sli .u8 b)] [] = gUWord b := by kernel_rfl
end Go.Proofs.YtfkpjbbkdkcdcaaDoorA

namespace Go.Proofs.YtfkpjbbkdkcdcaaDoorA
noncomputable def lpUValid_10s (again : (List Int) -> Option Out) (k0 : (List Int) -> Option Out) (v1 : List Int) : Option Out :=
 cond (decide ((32 : Int) < ((v1.length : Nat) : Int))) (
  cond (bytesOk v1 && decide (8 <= v1.length)) (
  let r13 : Int := u8Word v1
  cond (decide ((8 : Int) <= ((v1.length : Nat) : Int))) (
  let l14 : List Int := List.drop 8 v1
  cond (bytesOk l14 && decide (8 <= l14.length)) (
  let r15 : Int := u8Word l14
  let x16 : Int := IntKind.u64.wrap ((BitVec.ofInt 64 r13 ||| BitVec.ofInt 64 r15).toNat)
  cond (decide ((16 : Int) <= ((v1.length : Nat) : Int))) (
  let l17 : List Int := List.drop 16 v1
  cond (bytesOk l17 && decide (8 <= l17.length)) (
  let r18 : Int := u8Word l17
  cond (decide ((24 : Int) <= ((v1.length : Nat) : Int))) (
  let l19 : List Int := List.drop 24 v1
  cond (bytesOk l19 && decide (8 <= l19.length)) (
  let r20 : Int := u8Word l19
  let x21 : Int := IntKind.u64.wrap ((BitVec.ofInt 64 r18 ||| BitVec.ofInt 64 r20).toNat)
  let x22 : Int := IntKind.u64.wrap ((BitVec.ofInt 64 x16 ||| BitVec.ofInt 64 x21).toNat)
  let x23 : Int := IntKind.u64.wrap ((BitVec.ofInt 64 x22 &&& BitVec.ofInt 64 9259542123273814144).toNat)
  cond (decide (x23 = 0)) (
   cond (decide ((32 : Int) <= ((v1.length : Nat) : Int))) (
   let l24 : List Int := List.drop 32 v1
   again l24) none)
  (
   k0 v1)) none) none) none) none) none) none) none)
 (
  k0 v1)
noncomputable def lpUValid_10 (k0 : (List Int) -> Option Out) : Nat -> (List Int) -> Option Out := iterF (fun a => lpUValid_10s a k0) (fun _ => none)
noncomputable def lpUValid_2s (again : (List Int) -> Option Out) (k0 : Option Out) (k1 : Option Out) (v1 : List Int) : Option Out :=
 cond (decide ((0 : Int) < ((v1.length : Nat) : Int))) (
  cond (decide ((0 : Int) < ((v1.length : Nat) : Int))) (
  Option.bind (v1[0]?) fun (e2 : Int) =>
  cond (decide (e2 < 128)) (
   cond (decide ((1 : Int) <= ((v1.length : Nat) : Int))) (
   let l3 : List Int := List.drop 1 v1
   cond (decide ((8 : Int) < ((l3.length : Nat) : Int))) (
    cond (bytesOk l3 && decide (8 <= l3.length)) (
    let r4 : Int := u8Word l3
    let x5 : Int := IntKind.u64.wrap ((BitVec.ofInt 64 r4 &&& BitVec.ofInt 64 9259542123273814144).toNat)
    cond (decide (x5 = 0)) (
     cond (decide ((8 : Int) <= ((l3.length : Nat) : Int))) (
     let l6 : List Int := List.drop 8 l3
     cond (decide ((16 : Int) < ((l6.length : Nat) : Int))) (
      cond (bytesOk l6 && decide (8 <= l6.length)) (
      let r7 : Int := u8Word l6
      cond (decide ((8 : Int) <= ((l6.length : Nat) : Int))) (
      let l8 : List Int := List.drop 8 l6
      cond (bytesOk l8 && decide (8 <= l8.length)) (
      let r9 : Int := u8Word l8
      let x10 : Int := IntKind.u64.wrap ((BitVec.ofInt 64 r7 ||| BitVec.ofInt 64 r9).toNat)
      let x11 : Int := IntKind.u64.wrap ((BitVec.ofInt 64 x10 &&& BitVec.ofInt 64 9259542123273814144).toNat)
      cond (decide (x11 = 0)) (
       cond (decide ((16 : Int) <= ((l6.length : Nat) : Int))) (
       let l12 : List Int := List.drop 16 l6
       shut (lpUValid_10
       (fun (y13 : List Int) =>
        again y13)
       FUEL) l12) none)
      (
       again l6)) none) none) none)
     (
      again l6)) none)
    (
     again l3)) none)
   (
    again l3)) none)
  (
   cond (decide ((0 : Int) <= e2)) (
   cond (decide (e2 < 256)) (
   Option.bind (u8First[(Int.toNat e2)]?) fun (e14 : Int) =>
   let x15 : Int := IntKind.u8.wrap ((BitVec.ofInt 8 e14 &&& BitVec.ofInt 8 7).toNat)
   let x16 : Int := IntKind.i64.wrap x15
   let x17 : Int := Int.fdiv e14 (2 ^ 4)
   cond (decide ((0 : Int) <= x17)) (
   cond (decide (x17 < 16)) (
   Option.bind (u8Accept[(Int.toNat x17)]?) fun (e18 : CV) =>
   let e19 : CV := (cell1 e18).headD .nili
   let e20 : CV := (cell1 e18).tail.headD .nili
   cond (okInt .u8 e19 && (okInt .u8 e20 && true)) (
   let i21 : Int := cvInt e19
   let i22 : Int := cvInt e20
   cond (decide (x16 = 2)) (
    cond (decide (((v1.length : Nat) : Int) < 2)) (
     k0)
    (
     cond (decide ((1 : Int) < ((v1.length : Nat) : Int))) (
     Option.bind (v1[1]?) fun (e23 : Int) =>
     cond (decide (e23 < i21)) (
      k0)
     (
      cond (decide ((1 : Int) < ((v1.length : Nat) : Int))) (
      Option.bind (v1[1]?) fun (e24 : Int) =>
      cond (decide (i22 < e24)) (
       k0)
      (
       cond (decide ((2 : Int) <= ((v1.length : Nat) : Int))) (
       let l25 : List Int := List.drop 2 v1
       again l25) none)) none)) none))
   (
    cond (decide (x16 = 3)) (
     cond (decide (((v1.length : Nat) : Int) < 3)) (
      k0)
     (
      cond (decide ((1 : Int) < ((v1.length : Nat) : Int))) (
      Option.bind (v1[1]?) fun (e26 : Int) =>
      cond (decide (e26 < i21)) (
       k0)
      (
       cond (decide ((1 : Int) < ((v1.length : Nat) : Int))) (
       Option.bind (v1[1]?) fun (e27 : Int) =>
       cond (decide (i22 < e27)) (
        k0)
       (
        cond (decide ((2 : Int) < ((v1.length : Nat) : Int))) (
        Option.bind (v1[2]?) fun (e28 : Int) =>
        cond (decide (e28 < 128)) (
         k0)
        (
         cond (decide ((2 : Int) < ((v1.length : Nat) : Int))) (
         Option.bind (v1[2]?) fun (e29 : Int) =>
         cond (decide ((191 : Int) < e29)) (
          k0)
         (
          cond (decide ((3 : Int) <= ((v1.length : Nat) : Int))) (
          let l30 : List Int := List.drop 3 v1
          again l30) none)) none)) none)) none)) none))
    (
     cond (decide (x16 = 4)) (
      cond (decide (((v1.length : Nat) : Int) < 4)) (
       k0)
      (
       cond (decide ((1 : Int) < ((v1.length : Nat) : Int))) (
       Option.bind (v1[1]?) fun (e31 : Int) =>
       cond (decide (e31 < i21)) (
        k0)
       (
        cond (decide ((1 : Int) < ((v1.length : Nat) : Int))) (
        Option.bind (v1[1]?) fun (e32 : Int) =>
        cond (decide (i22 < e32)) (
         k0)
        (
         cond (decide ((2 : Int) < ((v1.length : Nat) : Int))) (
         Option.bind (v1[2]?) fun (e33 : Int) =>
         cond (decide (e33 < 128)) (
          k0)
         (
          cond (decide ((2 : Int) < ((v1.length : Nat) : Int))) (
          Option.bind (v1[2]?) fun (e34 : Int) =>
          cond (decide ((191 : Int) < e34)) (
           k0)
          (
           cond (decide ((3 : Int) < ((v1.length : Nat) : Int))) (
           Option.bind (v1[3]?) fun (e35 : Int) =>
           cond (decide (e35 < 128)) (
            k0)
           (
            cond (decide ((3 : Int) < ((v1.length : Nat) : Int))) (
            Option.bind (v1[3]?) fun (e36 : Int) =>
            cond (decide ((191 : Int) < e36)) (
             k0)
            (
             cond (decide ((4 : Int) <= ((v1.length : Nat) : Int))) (
             let l37 : List Int := List.drop 4 v1
             again l37) none)) none)) none)) none)) none)) none)) none))
     (
      k0)))) none) none) none) none) none)) none)
 (
  k1)
noncomputable def lpUValid_2 (k0 : Option Out) (k1 : Option Out) : Nat -> (List Int) -> Option Out := iterF (fun a => lpUValid_2s a k0 k1) (fun _ => none)
noncomputable def LUValid_10 : St -> (Ex -> St -> Option Out) -> Option Out := fun σ k => match σ with
 | ⟨[(q1, .cl (.sli .u8 v1))], []⟩ => cond (Nat.beq q1 0) (shut (lpUValid_10 (fun y1 => k (.exit 2) ⟨[(0, .cl (.sli .u8 y1))], []⟩) FUEL) v1) none
 | _ => none
noncomputable def LUValid_2 : St -> (Ex -> St -> Option Out) -> Option Out := fun σ k => match σ with
 | ⟨[(q1, .cl (.sli .u8 v1))], []⟩ => cond (Nat.beq q1 0) (shut (lpUValid_2 (k .ret ⟨[(2, .cl (.bool false))], []⟩) (k (.exit 0) ⟨[], []⟩) FUEL) v1) none
 | _ => none
noncomputable def EUValid : Env := {
 orc := fun g => cond (Nat.beq g 168) (SUWord) (fun _ _ => Tree.fail)
 pre := fun g => cond (Nat.beq g 168) (preUWord) (fun _ _ => true)
 byref := fun _ => []
 keep := fun _ => false
 live := fun r => cond (Nat.beq r 2) ([0]) (cond (Nat.beq r 10) ([0]) ([]))
 ren := fun _ => []
 glob := glVal
 nt := 188
 lp := fun r => cond (Nat.beq r 2) (some (LUValid_2)) (cond (Nat.beq r 10) (some (LUValid_10)) (none))
 xl := fun r => cond (Nat.beq r 0) (some [2]) (cond (Nat.beq r 1) (some []) (cond (Nat.beq r 2) (some [0]) (cond (Nat.beq r 3) (some [0]) (none))))
}
noncomputable def blpUValid_10 : Code := (Cd.fst (Cd.fst (Cd.snd (Cd.fst (Cd.snd (Cd.snd (Cd.fst (Cd.snd (Cd.fst (Cd.snd (Cd.fst (Cd.snd (Cd.fst (Cd.snd (Cd.fst (Cd.snd (Cd.fst (Cd.fst (Cd.fst (Cd.snd (Cd.snd (Tryd.f161.body.getD .skip))))))))))))))))))))))
noncomputable def blpUValid_2 : Code := (Cd.fst (Cd.fst (Cd.fst (Cd.snd (Cd.snd (Tryd.f161.body.getD .skip))))))
theorem LUValid_10_ok : LpOk Tryd.prog (EUValid) 40 blpUValid_10 10 LUValid_10 := by
 intro σ k r h
 unfold LUValid_10 at h
 split at h
 ·replace h := cond_some h
  obtain ⟨hc, h⟩ := h
  simp only [Bool.and_eq_true, beq_prop, decide_eq_true_eq, Bool.not_eq_true'] at hc
  obtain rfl := hc
  rw [shut_eq] at h
  exact ⟨FUEL, iter_ok (F := fun n v1 => iterK n (codeK Tryd.prog (EUValid) 40 blpUValid_10) (head (EUValid) 10) ⟨[(0, .cl (.sli .u8 v1))], []⟩ k) (Q := fun f => f _ = some r) rfl (fun n => by kernel_rfl) h⟩
 ·cases h
theorem LUValid_2_ok : LpOk Tryd.prog (EUValid) 40 blpUValid_2 2 LUValid_2 := by
 intro σ k r h
 unfold LUValid_2 at h
 split at h
 ·replace h := cond_some h
  obtain ⟨hc, h⟩ := h
  simp only [Bool.and_eq_true, beq_prop, decide_eq_true_eq, Bool.not_eq_true'] at hc
  obtain rfl := hc
  rw [shut_eq] at h
  exact ⟨FUEL, iter_ok (F := fun n v1 => iterK n (codeK Tryd.prog (EUValid) 40 blpUValid_2) (head (EUValid) 2) ⟨[(0, .cl (.sli .u8 v1))], []⟩ k) (Q := fun f => f _ = some r) rfl (fun n => by kernel_rfl) h⟩
 ·cases h
theorem loopsUValid : ∀ c, Tryd.f161.body = some c -> LoopsOk Tryd.prog (EUValid) 40 c := by
 intro c hc
 cases hc
 exact ⟨trivial, ⟨trivial, ⟨⟨⟨⟨trivial, ⟨trivial, trivial, jn_none rfl⟩, jn_none rfl⟩, ⟨trivial, ⟨⟨trivial, ⟨⟨trivial, ⟨⟨trivial, ⟨⟨trivial, ⟨trivial, ⟨⟨trivial, ⟨⟨⟨trivial, ⟨trivial, trivial, jn_none rfl⟩, jn_none rfl⟩, trivial, jn_none rfl⟩, lp_some rfl (LUValid_10_ok)⟩, jn_none rfl⟩, trivial, jn_none rfl⟩, jn_none rfl⟩, jn_none rfl⟩, trivial, jn_none rfl⟩, jn_none rfl⟩, trivial, jn_none rfl⟩, jn_none rfl⟩, trivial, jn_none rfl⟩, jn_none rfl⟩, ⟨trivial, ⟨trivial, ⟨trivial, ⟨trivial, ⟨trivial, ⟨⟨⟨trivial, ⟨⟨trivial, trivial, jn_none rfl⟩, trivial, jn_none rfl⟩, jn_none rfl⟩, trivial, jn_none rfl⟩, ⟨trivial, ⟨⟨⟨trivial, ⟨⟨trivial, trivial, jn_none rfl⟩, trivial, jn_none rfl⟩, jn_none rfl⟩, trivial, jn_none rfl⟩, ⟨trivial, ⟨⟨⟨trivial, ⟨⟨trivial, trivial, jn_none rfl⟩, trivial, jn_none rfl⟩, jn_none rfl⟩, trivial, jn_none rfl⟩, ⟨trivial, trivial, jn_none rfl⟩, jn_none rfl⟩, jn_none rfl⟩, jn_none rfl⟩, jn_none rfl⟩, jn_none rfl⟩, jn_none rfl⟩, jn_none rfl⟩, jn_none rfl⟩, jn_none rfl⟩, jn_none rfl⟩, jn_none rfl⟩, jn_none rfl⟩, jn_none rfl⟩, lp_some rfl (LUValid_2_ok)⟩, ⟨trivial, trivial, jn_none rfl⟩, jn_none rfl⟩, jn_none rfl⟩, jn_none rfl⟩
noncomputable def gUValid (b : List Int) : Option Out :=
 cond (decide ((0 : Int) <= ((b.length : Nat) : Int)) && decide (((b.length : Nat) : Int) <= ((b.length : Nat) : Int))) (
 cond (decide (((b.length : Nat) : Int) <= ((b.length : Nat) : Int))) (
 let l1 : List Int := List.take (Int.toNat ((b.length : Nat) : Int)) b
 shut (lpUValid_2
 (
  some (.ret [.cl (.bool false)] []))
 (
  some (.ret [.cl (.bool true)] []))
 FUEL) l1) none) none
theorem gUValid_eq (b : List Int) : bodyK Tryd.prog (EUValid) 40 false Tryd.f161 [.cl (.sli .u8 b)] [] = gUValid b := by kernel_rfl
end Go.Proofs.YtfkpjbbkdkcdcaaDoorA

namespace Go.Proofs.YtfkpjbbkdkcdcaaDoorA
end Go.Proofs.YtfkpjbbkdkcdcaaDoorA

namespace Go.Proofs.YtfkpjbbkdkcdcaaDoorA
noncomputable def EDFits : Env := {
 orc := fun g => cond (Nat.beq g 82) (SOParse) (cond (Nat.beq g 85) (SSRead) (cond (Nat.beq g 159) (SDNumber) (cond (Nat.beq g 160) (SDStrip) (cond (Nat.beq g 161) (SUValid) (fun _ _ => Tree.fail)))))
 pre := fun g => cond (Nat.beq g 82) (preOParse) (cond (Nat.beq g 85) (preSRead) (cond (Nat.beq g 159) (preDNumber) (cond (Nat.beq g 160) (preDStrip) (cond (Nat.beq g 161) (preUValid) (fun _ _ => true)))))
 byref := fun _ => []
 keep := fun _ => false
 live := fun _ => []
 ren := fun _ => []
 glob := glVal
 nt := 63
 lp := fun _ => none
}
theorem loopsDFits : ∀ c, Tryd.f147.body = some c -> LoopsOk Tryd.prog (EDFits) 40 c := by
 intro c hc
 cases hc
 exact ⟨trivial, ⟨⟨trivial, ⟨trivial, ⟨⟨trivial, trivial, jn_none rfl⟩, ⟨trivial, ⟨⟨trivial, trivial, jn_none rfl⟩, ⟨trivial, ⟨⟨trivial, trivial, jn_none rfl⟩, ⟨trivial, ⟨⟨trivial, trivial, jn_none rfl⟩, ⟨trivial, ⟨⟨trivial, ⟨trivial, trivial, jn_none rfl⟩, jn_none rfl⟩, ⟨trivial, ⟨⟨trivial, trivial, jn_none rfl⟩, ⟨trivial, ⟨⟨trivial, ⟨trivial, trivial, jn_none rfl⟩, jn_none rfl⟩, trivial, jn_none rfl⟩, jn_none rfl⟩, jn_none rfl⟩, jn_none rfl⟩, jn_none rfl⟩, jn_none rfl⟩, jn_none rfl⟩, jn_none rfl⟩, jn_none rfl⟩, jn_none rfl⟩, jn_none rfl⟩, jn_none rfl⟩, jn_none rfl⟩, jn_none rfl⟩, jn_none rfl⟩, ⟨trivial, trivial, jn_none rfl⟩, jn_none rfl⟩, jn_none rfl⟩
noncomputable def gDFits (tag : Int) (b : List Int) : Option Out :=
 cond (decide (tag = 1)) (
  cond (decide (((b.length : Nat) : Int) = 1)) (
   cond (decide ((0 : Int) < ((b.length : Nat) : Int))) (
   Option.bind (b[0]?) fun (e1 : Int) =>
   cond (decide (e1 = 0)) (
    some (.ret [.cl (.bool true)] []))
   (
    cond (decide ((0 : Int) < ((b.length : Nat) : Int))) (
    Option.bind (b[0]?) fun (e2 : Int) =>
    some (.ret [.cl (.bool (decide (e2 = 255)))] [])) none)) none)
  (
   some (.ret [.cl (.bool false)] [])))
 (
  cond (decide (tag = 2)) (
   cond (bytesOk b) (
   let r3 : Bool := derNumber b
   some (.ret [.cl (.bool r3)] [])) none)
  (
   cond (decide (tag = 3)) (
    cond (bytesOk b) (
    let r4 : Bool := derStrip b
    some (.ret [.cl (.bool r4)] [])) none)
   (
    cond (decide (tag = 5)) (
     some (.ret [.cl (.bool (decide (((b.length : Nat) : Int) = 0)))] []))
    (
     cond (decide (tag = 6)) (
      cond (bytesOk b) (
      let r6 : Int := (oidParse b).2
      some (.ret [.cl (.bool (decide (r6 = 0)))] [])) none)
     (
      cond (decide (tag = 12)) (
       cond (bytesOk b) (
       let r7 : Bool := u8Valid b
       some (.ret [.cl (.bool r7)] [])) none)
      (
       cond (decide (tag = 24)) (
        let s8 : ByteArray := strOf b
        let r10 : Int := (stRead s8).2
        some (.ret [.cl (.bool (decide (r10 = 0)))] []))
       (
        some (.ret [.cl (.bool true)] []))))))))
theorem gDFits_eq (tag : Int) (b : List Int) : bodyK Tryd.prog (EDFits) 40 false Tryd.f147 [.cl (.int .i64 tag), .cl (.sli .u8 b)] [] = gDFits tag b := by kernel_rfl
end Go.Proofs.YtfkpjbbkdkcdcaaDoorA

namespace Go.Proofs.YtfkpjbbkdkcdcaaDoorA
end Go.Proofs.YtfkpjbbkdkcdcaaDoorA

namespace Go.Proofs.YtfkpjbbkdkcdcaaDoorA
end Go.Proofs.YtfkpjbbkdkcdcaaDoorA

namespace Go.Proofs.YtfkpjbbkdkcdcaaDoorA
noncomputable def EBCompare : Env := {
 orc := fun g => cond (Nat.beq g 116) (SBACompare) (fun _ _ => Tree.fail)
 pre := fun g => cond (Nat.beq g 116) (preBACompare) (fun _ _ => true)
 byref := fun _ => []
 keep := fun _ => false
 live := fun _ => []
 ren := fun _ => []
 glob := glVal
 nt := 8
 lp := fun _ => none
}
theorem loopsBCompare : ∀ c, Tryd.f71.body = some c -> LoopsOk Tryd.prog (EBCompare) 40 c := by
 intro c hc
 cases hc
 exact ⟨trivial, ⟨trivial, trivial, jn_none rfl⟩, jn_none rfl⟩
noncomputable def gBCompare (a : List Int) (b : List Int) : Option Out :=
 cond (bytesOk a && bytesOk b) (
 let r1 : Int := listCmp a b
 some (.ret [.cl (.int .i64 r1)] [])) none
theorem gBCompare_eq (a : List Int) (b : List Int) : bodyK Tryd.prog (EBCompare) 40 false Tryd.f71 [.cl (.sli .u8 a), .cl (.sli .u8 b)] [] = gBCompare a b := by kernel_rfl
end Go.Proofs.YtfkpjbbkdkcdcaaDoorA

namespace Go.Proofs.YtfkpjbbkdkcdcaaDoorA
noncomputable def EOLess : Env := {
 orc := fun g => cond (Nat.beq g 71) (SBCompare) (fun _ _ => Tree.fail)
 pre := fun g => cond (Nat.beq g 71) (preBCompare) (fun _ _ => true)
 byref := fun _ => []
 keep := fun _ => false
 live := fun _ => []
 ren := fun _ => []
 glob := glVal
 nt := 9
 lp := fun _ => none
}
theorem loopsOLess : ∀ c, Tryd.f163.body = some c -> LoopsOk Tryd.prog (EOLess) 40 c := by
 intro c hc
 cases hc
 exact ⟨trivial, ⟨trivial, trivial, jn_none rfl⟩, jn_none rfl⟩
noncomputable def gOLess (a : List Int) (b : List Int) : Option Out :=
 cond (bytesOk a && bytesOk b) (
 let r1 : Int := listCmp a b
 some (.ret [.cl (.bool (decide (r1 <= 0)))] [])) none
theorem gOLess_eq (a : List Int) (b : List Int) : bodyK Tryd.prog (EOLess) 40 false Tryd.f163 [.cl (.sli .u8 a), .cl (.sli .u8 b)] [] = gOLess a b := by kernel_rfl
end Go.Proofs.YtfkpjbbkdkcdcaaDoorA

namespace Go.Proofs.YtfkpjbbkdkcdcaaDoorA
noncomputable def lpOSteps_2s (again : (List CV) -> Int -> Option Out) (k0 : (List CV) -> Int -> Int -> (List CV) -> Int -> (List CV) -> Int -> Int -> (List CV) -> Nat -> (List Int) -> (List CV) -> Int -> (List CV) -> Nat -> (List Int) -> Bool -> Option Out) (k1 : (List CV) -> Int -> Int -> (List CV) -> Int -> Option Out) (v1 : List CV) (v2 : Int) : Option Out :=
 cond (decide (v2 < ((v1.length : Nat) : Int))) (
  let x1 : Int := IntKind.i64.wrap (v2 - 1)
  cond (decide ((0 : Int) <= x1)) (
  cond (decide (x1 < ((v1.length : Nat) : Int))) (
  Option.bind (v1[(Int.toNat x1)]?) fun (e2 : CV) =>
  let e3 : CV := (cell1 e2).getD 0 .nili
  cond (okSli .u8 e3) (
  let l4 : List Int := cvSli e3
  cond (decide ((0 : Int) <= v2)) (
  cond (decide (v2 < ((v1.length : Nat) : Int))) (
  Option.bind (v1[(Int.toNat v2)]?) fun (e5 : CV) =>
  let e6 : CV := (cell1 e5).getD 0 .nili
  cond (okSli .u8 e6) (
  let l7 : List Int := cvSli e6
  cond (bytesOk l4 && bytesOk l7) (
  let r8 : Bool := decide (listCmp l4 l7 <= 0)
  cond (!r8) (
   k0 v1 v2 v2 v1 ((v1.length : Nat) : Int) v1 v2 x1 v1 (Int.toNat x1) l4 v1 v2 v1 (Int.toNat v2) l7 r8)
  (
   let x9 : Int := IntKind.i64.wrap (v2 + 1)
   again v1 x9)) none) none) none) none) none) none) none)
 (
  k1 v1 v2 v2 v1 ((v1.length : Nat) : Int))
noncomputable def lpOSteps_2 (k0 : (List CV) -> Int -> Int -> (List CV) -> Int -> (List CV) -> Int -> Int -> (List CV) -> Nat -> (List Int) -> (List CV) -> Int -> (List CV) -> Nat -> (List Int) -> Bool -> Option Out) (k1 : (List CV) -> Int -> Int -> (List CV) -> Int -> Option Out) : Nat -> (List CV) -> Int -> Option Out
 | 0 => fun _ _ => none
 | n + 1 => lpOSteps_2s (lpOSteps_2 k0 k1 n) k0 k1
noncomputable def LOSteps_2 : St -> (Ex -> St -> Option Out) -> Option Out := fun σ k => match σ with
 | ⟨[(q1, .cl (.slg q2 v1)), (q3, .cl (.fn (.func q4) [] [])), (q5, .cl (.int .i64 v2))], []⟩ => cond (Nat.beq q1 0 && Nat.beq q2 1 && Nat.beq q3 1 && Nat.beq q4 163 && Nat.beq q5 5) (shut (lpOSteps_2 (fun y1 y2 y3 y4 y5 y6 y7 y8 y9 y10 y11 y12 y13 y14 y15 y16 y17 => k .ret ⟨[(0, .cl (.slg 1 y1)), (1, .cl (.fn (.func 163) [] [])), (4, .cl (.bool false)), (5, .cl (.int .i64 y2)), (6, .cl (.int .i64 y3)), (7, .cl (.slg 1 y4)), (8, .cl (.int .i64 y5)), (9, .cl (.bool true)), (12, .cl (.fn (.func 163) [] [])), (13, .cl (.slg 1 y6)), (14, .cl (.int .i64 y7)), (15, .cl (.int .i64 y8)), (16, .cl (.vp (.slg 1 y9) y10 0)), (17, .cl (.sli .u8 y11)), (18, .cl (.slg 1 y12)), (19, .cl (.int .i64 y13)), (20, .cl (.vp (.slg 1 y14) y15 0)), (21, .cl (.sli .u8 y16)), (22, .cl (.bool y17)), (23, .cl (.bool true))], []⟩) (fun y1 y2 y3 y4 y5 => k (.exit 0) ⟨[(0, .cl (.slg 1 y1)), (1, .cl (.fn (.func 163) [] [])), (5, .cl (.int .i64 y2)), (6, .cl (.int .i64 y3)), (7, .cl (.slg 1 y4)), (8, .cl (.int .i64 y5)), (9, .cl (.bool false))], []⟩) FUEL) v1 v2) none
 | _ => none
noncomputable def EOSteps : Env := {
 orc := fun g => cond (Nat.beq g 163) (SOLess) (fun _ _ => Tree.fail)
 pre := fun g => cond (Nat.beq g 163) (preOLess) (fun _ _ => true)
 byref := fun _ => []
 keep := fun _ => false
 live := fun r => cond (Nat.beq r 2) ([0, 1, 5]) ([])
 ren := fun _ => []
 glob := glVal
 nt := 24
 lp := fun r => cond (Nat.beq r 2) (some (LOSteps_2)) (none)
}
noncomputable def blpOSteps_2 : Code := (Cd.fst (Cd.fst (Cd.snd (Cd.fst (Cd.snd (Tryd.f162.body.getD .skip))))))
theorem lpOSteps_2_step (k : Ex -> St -> Option Out) (n : Nat) (v1 : List CV) (v2 : Int) : iterK (n + 1) (codeK Tryd.prog (EOSteps) 40 blpOSteps_2) (head (EOSteps) 2) ⟨[(0, .cl (.slg 1 v1)), (1, .cl (.fn (.func 163) [] [])), (5, .cl (.int .i64 v2))], []⟩ k = lpOSteps_2s (fun v1 v2 => iterK n (codeK Tryd.prog (EOSteps) 40 blpOSteps_2) (head (EOSteps) 2) ⟨[(0, .cl (.slg 1 v1)), (1, .cl (.fn (.func 163) [] [])), (5, .cl (.int .i64 v2))], []⟩ k) (fun y1 y2 y3 y4 y5 y6 y7 y8 y9 y10 y11 y12 y13 y14 y15 y16 y17 => k .ret ⟨[(0, .cl (.slg 1 y1)), (1, .cl (.fn (.func 163) [] [])), (4, .cl (.bool false)), (5, .cl (.int .i64 y2)), (6, .cl (.int .i64 y3)), (7, .cl (.slg 1 y4)), (8, .cl (.int .i64 y5)), (9, .cl (.bool true)), (12, .cl (.fn (.func 163) [] [])), (13, .cl (.slg 1 y6)), (14, .cl (.int .i64 y7)), (15, .cl (.int .i64 y8)), (16, .cl (.vp (.slg 1 y9) y10 0)), (17, .cl (.sli .u8 y11)), (18, .cl (.slg 1 y12)), (19, .cl (.int .i64 y13)), (20, .cl (.vp (.slg 1 y14) y15 0)), (21, .cl (.sli .u8 y16)), (22, .cl (.bool y17)), (23, .cl (.bool true))], []⟩) (fun y1 y2 y3 y4 y5 => k (.exit 0) ⟨[(0, .cl (.slg 1 y1)), (1, .cl (.fn (.func 163) [] [])), (5, .cl (.int .i64 y2)), (6, .cl (.int .i64 y3)), (7, .cl (.slg 1 y4)), (8, .cl (.int .i64 y5)), (9, .cl (.bool false))], []⟩) v1 v2 := by kernel_rfl
theorem lpOSteps_2_eq (k : Ex -> St -> Option Out) : ∀ (n : Nat), ∀ (v1 : List CV) (v2 : Int), iterK n (codeK Tryd.prog (EOSteps) 40 blpOSteps_2) (head (EOSteps) 2) ⟨[(0, .cl (.slg 1 v1)), (1, .cl (.fn (.func 163) [] [])), (5, .cl (.int .i64 v2))], []⟩ k = lpOSteps_2 (fun y1 y2 y3 y4 y5 y6 y7 y8 y9 y10 y11 y12 y13 y14 y15 y16 y17 => k .ret ⟨[(0, .cl (.slg 1 y1)), (1, .cl (.fn (.func 163) [] [])), (4, .cl (.bool false)), (5, .cl (.int .i64 y2)), (6, .cl (.int .i64 y3)), (7, .cl (.slg 1 y4)), (8, .cl (.int .i64 y5)), (9, .cl (.bool true)), (12, .cl (.fn (.func 163) [] [])), (13, .cl (.slg 1 y6)), (14, .cl (.int .i64 y7)), (15, .cl (.int .i64 y8)), (16, .cl (.vp (.slg 1 y9) y10 0)), (17, .cl (.sli .u8 y11)), (18, .cl (.slg 1 y12)), (19, .cl (.int .i64 y13)), (20, .cl (.vp (.slg 1 y14) y15 0)), (21, .cl (.sli .u8 y16)), (22, .cl (.bool y17)), (23, .cl (.bool true))], []⟩) (fun y1 y2 y3 y4 y5 => k (.exit 0) ⟨[(0, .cl (.slg 1 y1)), (1, .cl (.fn (.func 163) [] [])), (5, .cl (.int .i64 y2)), (6, .cl (.int .i64 y3)), (7, .cl (.slg 1 y4)), (8, .cl (.int .i64 y5)), (9, .cl (.bool false))], []⟩) n v1 v2
 | 0 => by intros; rfl
 | n + 1 => by
  intros
  rw [lpOSteps_2_step]
  have ih := lpOSteps_2_eq k n
  simp only [lpOSteps_2, ih]
theorem LOSteps_2_ok : ∀ (σ : St) (k : Ex -> St -> Option Out) (r : Out), LOSteps_2 σ k = some r -> ∃ n, iterK n (codeK Tryd.prog (EOSteps) 40 blpOSteps_2) (head (EOSteps) 2) σ k = some r := by
 intro σ k r h
 unfold LOSteps_2 at h
 split at h
 ·replace h := cond_some h
  obtain ⟨hc, h⟩ := h
  simp only [Bool.and_eq_true, beq_prop, decide_eq_true_eq, Bool.not_eq_true'] at hc
  obtain ⟨⟨⟨⟨rfl, rfl⟩, rfl⟩, rfl⟩, rfl⟩ := hc
  rw [shut_eq] at h
  exact ⟨FUEL, (lpOSteps_2_eq k FUEL _ _ ).trans h⟩
 ·cases h
theorem loopsOSteps : ∀ c, Tryd.f162.body = some c -> LoopsOk Tryd.prog (EOSteps) 40 c := by
 intro c hc
 cases hc
 exact ⟨trivial, ⟨⟨trivial, ⟨⟨⟨trivial, ⟨trivial, trivial, jn_none rfl⟩, jn_none rfl⟩, ⟨⟨trivial, ⟨⟨trivial, trivial, jn_none rfl⟩, trivial, jn_none rfl⟩, jn_none rfl⟩, trivial, jn_none rfl⟩, jn_none rfl⟩, lp_some rfl (LOSteps_2_ok)⟩, jn_none rfl⟩, ⟨trivial, trivial, jn_none rfl⟩, jn_none rfl⟩, jn_none rfl⟩
noncomputable def gOSteps (l : List CV) : Option Out :=
 shut (lpOSteps_2
 (fun (y1 : List CV) (y2 : Int) (y3 : Int) (y4 : List CV) (y5 : Int) (y6 : List CV) (y7 : Int) (y8 : Int) (y9 : List CV) (y10 : Nat) (y11 : List Int) (y12 : List CV) (y13 : Int) (y14 : List CV) (y15 : Nat) (y16 : List Int) (y17 : Bool) =>
  some (.ret [.cl (.bool false)] []))
 (fun (y18 : List CV) (y19 : Int) (y20 : Int) (y21 : List CV) (y22 : Int) =>
  some (.ret [.cl (.bool true)] []))
 FUEL) l 1
theorem gOSteps_eq (l : List CV) : bodyK Tryd.prog (EOSteps) 40 false Tryd.f162 [.cl (.slg 1 l), .cl (.fn (.func 163) [] [])] [] = gOSteps l := by kernel_rfl
end Go.Proofs.YtfkpjbbkdkcdcaaDoorA

namespace Go.Proofs.YtfkpjbbkdkcdcaaDoorA
noncomputable def EOSorted : Env := {
 orc := fun g => cond (Nat.beq g 162) (SOSteps) (cond (Nat.beq g 163) (SOLess) (fun _ _ => Tree.fail))
 pre := fun g => cond (Nat.beq g 162) (preOSteps) (cond (Nat.beq g 163) (preOLess) (fun _ _ => true))
 byref := fun _ => []
 keep := fun _ => false
 live := fun _ => []
 ren := fun _ => []
 glob := glVal
 nt := 5
 lp := fun _ => none
}
theorem loopsOSorted : ∀ c, Tryd.f150.body = some c -> LoopsOk Tryd.prog (EOSorted) 40 c := by
 intro c hc
 cases hc
 exact ⟨trivial, ⟨trivial, trivial, jn_none rfl⟩, jn_none rfl⟩
noncomputable def gOSorted (l : List CV) : Option Out :=
 cond (rowsOk l) (
 let r1 : Bool := rowsSorted l
 some (.ret [.cl (.bool r1)] [])) none
theorem gOSorted_eq (l : List CV) : bodyK Tryd.prog (EOSorted) 40 false Tryd.f150 [.cl (.slg 1 l)] [] = gOSorted l := by kernel_rfl
end Go.Proofs.YtfkpjbbkdkcdcaaDoorA

namespace Go.Proofs.YtfkpjbbkdkcdcaaDoorA
end Go.Proofs.YtfkpjbbkdkcdcaaDoorA

namespace Go.Proofs.YtfkpjbbkdkcdcaaDoorA
noncomputable def lpDSize_8s (rk : Nat) (again : Int -> Int -> (List CV) -> Int -> Int -> Option Out) (k0 : Int -> Int -> Int -> (List CV) -> Int -> Int -> (List CV) -> Nat -> Int -> (List Int) -> (List CV) -> Int -> (List Int) -> (List CV) -> Int -> Int -> Int -> Int -> Int -> Int -> Int -> Bool -> Int -> (List Int) -> (List CV) -> Option Out) (k1 : Int -> Int -> Int -> (List CV) -> Int -> Int -> (List CV) -> Nat -> Int -> (List Int) -> (List CV) -> Int -> (List Int) -> (List CV) -> Int -> Int -> Int -> Int -> Int -> Int -> Int -> Bool -> Int -> Bool -> Int -> (List Int) -> (List CV) -> Option Out) (k2 : Int -> Int -> (List CV) -> Int -> Int -> Option Out) (v1 : Int) (v2 : Int) (v3 : List CV) (v4 : Int) (v5 : Int) : Option Out :=
 cond (decide (v5 < v4)) (
  cond (decide ((0 : Int) <= v5)) (
  cond (decide (v5 < ((v3.length : Nat) : Int))) (
  Option.bind (v3[(Int.toNat v5)]?) fun (e3 : CV) =>
  let e4 : CV := (cell1 e3).headD .nili
  let e5 : CV := (cell1 e3).tail.headD .nili
  let e6 : CV := (cell1 e3).tail.tail.headD .nili
  cond (okInt .i64 e4 && (okSli .u8 e5 && (okSlg 3 e6 && true))) (
  let i7 : Int := cvInt e4
  let l8 : List Int := cvSli e5
  let l9 : List CV := cvSlg e6
  let x10 : Int := IntKind.i64.wrap (v1 - 1)
  cond (isSr rk [.int .i64 i7, .sli .u8 l8, .slg 3 l9] && deepOk x10) (
  let r11 : Int := ndSize [.int .i64 i7, .sli .u8 l8, .slg 3 l9] x10
  let x12 : Int := IntKind.i64.wrap (v2 + r11)
  cond (decide (r11 < 0)) (
   k0 v1 x12 r11 v3 v4 v5 v3 (Int.toNat v5) i7 l8 l9 i7 l8 l9 v1 x10 r11 v2 r11 x12 r11 (decide (r11 < 0)) i7 l8 l9)
  (
   cond (decide ((1048576 : Int) < x12)) (
    k1 v1 x12 r11 v3 v4 v5 v3 (Int.toNat v5) i7 l8 l9 i7 l8 l9 v1 x10 r11 v2 r11 x12 r11 (decide (r11 < 0)) x12 (decide ((1048576 : Int) < x12)) i7 l8 l9)
   (
    let x13 : Int := IntKind.i64.wrap (v5 + 1)
    again v1 x12 v3 v4 x13))) none) none) none) none)
 (
  k2 v1 v2 v3 v4 v5)
noncomputable def lpDSize_8 (rk : Nat) (k0 : Int -> Int -> Int -> (List CV) -> Int -> Int -> (List CV) -> Nat -> Int -> (List Int) -> (List CV) -> Int -> (List Int) -> (List CV) -> Int -> Int -> Int -> Int -> Int -> Int -> Int -> Bool -> Int -> (List Int) -> (List CV) -> Option Out) (k1 : Int -> Int -> Int -> (List CV) -> Int -> Int -> (List CV) -> Nat -> Int -> (List Int) -> (List CV) -> Int -> (List Int) -> (List CV) -> Int -> Int -> Int -> Int -> Int -> Int -> Int -> Bool -> Int -> Bool -> Int -> (List Int) -> (List CV) -> Option Out) (k2 : Int -> Int -> (List CV) -> Int -> Int -> Option Out) : Nat -> Int -> Int -> (List CV) -> Int -> Int -> Option Out
 | 0 => fun _ _ _ _ _ => none
 | n + 1 => lpDSize_8s rk (lpDSize_8 rk k0 k1 k2 n) k0 k1 k2
noncomputable def LDSize_8 (rk : Nat) : St -> (Ex -> St -> Option Out) -> Option Out := fun σ k => match σ with
 | ⟨[(q1, .cl (.int .i64 v1)), (q2, .cl (.int .i64 v2)), (q3, .cl (.slg q4 v3)), (q5, .cl (.int .i64 v4)), (q6, .cl (.int .i64 v5))], []⟩ => cond (Nat.beq q1 1 && Nat.beq q2 5 && Nat.beq q3 26 && Nat.beq q4 3 && Nat.beq q5 27 && Nat.beq q6 28) (shut (lpDSize_8 rk (fun y1 y2 y3 y4 y5 y6 y7 y8 y9 y10 y11 y12 y13 y14 y15 y16 y17 y18 y19 y20 y21 y22 y23 y24 y25 => k .ret ⟨[(1, .cl (.int .i64 y1)), (4, .cl (.int .i64 (-1))), (5, .cl (.int .i64 y2)), (7, .ptr 71 0 0), (8, .cl (.int .i64 y3)), (26, .cl (.slg 3 y4)), (27, .cl (.int .i64 y5)), (28, .cl (.int .i64 y6)), (29, .cl (.bool true)), (30, .cl (.vp (.slg 3 y7) y8 0)), (31, .cl (.agg [.int .i64 y9, .sli .u8 y10, .slg 3 y11])), (32, .cl (.agg [.int .i64 y12, .sli .u8 y13, .slg 3 y14])), (33, .cl (.int .i64 y15)), (34, .cl (.int .i64 y16)), (35, .cl (.int .i64 y17)), (36, .cl (.int .i64 y18)), (37, .cl (.int .i64 y19)), (38, .cl (.int .i64 y20)), (39, .cl (.int .i64 y21)), (40, .cl (.bool y22)), (41, .cl (.bool true)), (42, .tup []), (43, .tup []), (44, .cl (.bool true))], [(71, ⟨.var [.cl (.int .i64 y23), .cl (.sli .u8 y24), .cl (.slg 3 y25)], false⟩)]⟩) (fun y1 y2 y3 y4 y5 y6 y7 y8 y9 y10 y11 y12 y13 y14 y15 y16 y17 y18 y19 y20 y21 y22 y23 y24 y25 y26 y27 => k .ret ⟨[(1, .cl (.int .i64 y1)), (4, .cl (.int .i64 (-1))), (5, .cl (.int .i64 y2)), (7, .ptr 71 0 0), (8, .cl (.int .i64 y3)), (26, .cl (.slg 3 y4)), (27, .cl (.int .i64 y5)), (28, .cl (.int .i64 y6)), (29, .cl (.bool true)), (30, .cl (.vp (.slg 3 y7) y8 0)), (31, .cl (.agg [.int .i64 y9, .sli .u8 y10, .slg 3 y11])), (32, .cl (.agg [.int .i64 y12, .sli .u8 y13, .slg 3 y14])), (33, .cl (.int .i64 y15)), (34, .cl (.int .i64 y16)), (35, .cl (.int .i64 y17)), (36, .cl (.int .i64 y18)), (37, .cl (.int .i64 y19)), (38, .cl (.int .i64 y20)), (39, .cl (.int .i64 y21)), (40, .cl (.bool y22)), (41, .cl (.bool false)), (42, .cl (.int .i64 y23)), (43, .cl (.bool y24)), (44, .cl (.bool true))], [(71, ⟨.var [.cl (.int .i64 y25), .cl (.sli .u8 y26), .cl (.slg 3 y27)], false⟩)]⟩) (fun y1 y2 y3 y4 y5 => k (.exit 0) ⟨[(1, .cl (.int .i64 y1)), (5, .cl (.int .i64 y2)), (26, .cl (.slg 3 y3)), (27, .cl (.int .i64 y4)), (28, .cl (.int .i64 y5)), (29, .cl (.bool false))], []⟩) FUEL) v1 v2 v3 v4 v5) none
 | _ => none
noncomputable def EDSize (rk : Nat) : Env := {
 orc := fun g => cond (Nat.beq g 100) (SDBoxed) (cond (Nat.beq g 113) (SDSize) (cond (Nat.beq g 146) (SDKnown) (cond (Nat.beq g 147) (SDFits) (cond (Nat.beq g 148) (SDLenSize) (fun _ _ => Tree.fail)))))
 pre := fun g => cond (Nat.beq g 100) (preDBoxed) (cond (Nat.beq g 113) (preRDSize (rk)) (cond (Nat.beq g 146) (preDKnown) (cond (Nat.beq g 147) (preDFits) (cond (Nat.beq g 148) (preDLenSize) (fun _ _ => true)))))
 byref := fun _ => []
 keep := fun _ => false
 live := fun r => cond (Nat.beq r 8) ([1, 5, 26, 27, 28]) ([])
 ren := fun _ => []
 glob := glVal
 nt := 67
 lp := fun r => cond (Nat.beq r 8) (some (LDSize_8 rk)) (none)
}
noncomputable def blpDSize_8 : Code := (Cd.fst (Cd.fst (Cd.snd (Cd.snd (Cd.fst (Cd.snd (Cd.fst (Cd.snd (Cd.snd (Cd.snd (Tryd.f113.body.getD .skip)))))))))))
theorem lpDSize_8_step (rk : Nat) (k : Ex -> St -> Option Out) (n : Nat) (v1 : Int) (v2 : Int) (v3 : List CV) (v4 : Int) (v5 : Int) : iterK (n + 1) (codeK Tryd.prog (EDSize rk) 40 blpDSize_8) (head (EDSize rk) 8) ⟨[(1, .cl (.int .i64 v1)), (5, .cl (.int .i64 v2)), (26, .cl (.slg 3 v3)), (27, .cl (.int .i64 v4)), (28, .cl (.int .i64 v5))], []⟩ k = lpDSize_8s rk (fun v1 v2 v3 v4 v5 => iterK n (codeK Tryd.prog (EDSize rk) 40 blpDSize_8) (head (EDSize rk) 8) ⟨[(1, .cl (.int .i64 v1)), (5, .cl (.int .i64 v2)), (26, .cl (.slg 3 v3)), (27, .cl (.int .i64 v4)), (28, .cl (.int .i64 v5))], []⟩ k) (fun y1 y2 y3 y4 y5 y6 y7 y8 y9 y10 y11 y12 y13 y14 y15 y16 y17 y18 y19 y20 y21 y22 y23 y24 y25 => k .ret ⟨[(1, .cl (.int .i64 y1)), (4, .cl (.int .i64 (-1))), (5, .cl (.int .i64 y2)), (7, .ptr 71 0 0), (8, .cl (.int .i64 y3)), (26, .cl (.slg 3 y4)), (27, .cl (.int .i64 y5)), (28, .cl (.int .i64 y6)), (29, .cl (.bool true)), (30, .cl (.vp (.slg 3 y7) y8 0)), (31, .cl (.agg [.int .i64 y9, .sli .u8 y10, .slg 3 y11])), (32, .cl (.agg [.int .i64 y12, .sli .u8 y13, .slg 3 y14])), (33, .cl (.int .i64 y15)), (34, .cl (.int .i64 y16)), (35, .cl (.int .i64 y17)), (36, .cl (.int .i64 y18)), (37, .cl (.int .i64 y19)), (38, .cl (.int .i64 y20)), (39, .cl (.int .i64 y21)), (40, .cl (.bool y22)), (41, .cl (.bool true)), (42, .tup []), (43, .tup []), (44, .cl (.bool true))], [(71, ⟨.var [.cl (.int .i64 y23), .cl (.sli .u8 y24), .cl (.slg 3 y25)], false⟩)]⟩) (fun y1 y2 y3 y4 y5 y6 y7 y8 y9 y10 y11 y12 y13 y14 y15 y16 y17 y18 y19 y20 y21 y22 y23 y24 y25 y26 y27 => k .ret ⟨[(1, .cl (.int .i64 y1)), (4, .cl (.int .i64 (-1))), (5, .cl (.int .i64 y2)), (7, .ptr 71 0 0), (8, .cl (.int .i64 y3)), (26, .cl (.slg 3 y4)), (27, .cl (.int .i64 y5)), (28, .cl (.int .i64 y6)), (29, .cl (.bool true)), (30, .cl (.vp (.slg 3 y7) y8 0)), (31, .cl (.agg [.int .i64 y9, .sli .u8 y10, .slg 3 y11])), (32, .cl (.agg [.int .i64 y12, .sli .u8 y13, .slg 3 y14])), (33, .cl (.int .i64 y15)), (34, .cl (.int .i64 y16)), (35, .cl (.int .i64 y17)), (36, .cl (.int .i64 y18)), (37, .cl (.int .i64 y19)), (38, .cl (.int .i64 y20)), (39, .cl (.int .i64 y21)), (40, .cl (.bool y22)), (41, .cl (.bool false)), (42, .cl (.int .i64 y23)), (43, .cl (.bool y24)), (44, .cl (.bool true))], [(71, ⟨.var [.cl (.int .i64 y25), .cl (.sli .u8 y26), .cl (.slg 3 y27)], false⟩)]⟩) (fun y1 y2 y3 y4 y5 => k (.exit 0) ⟨[(1, .cl (.int .i64 y1)), (5, .cl (.int .i64 y2)), (26, .cl (.slg 3 y3)), (27, .cl (.int .i64 y4)), (28, .cl (.int .i64 y5)), (29, .cl (.bool false))], []⟩) v1 v2 v3 v4 v5 := by kernel_rfl
theorem lpDSize_8_eq (rk : Nat) (k : Ex -> St -> Option Out) : ∀ (n : Nat), ∀ (v1 : Int) (v2 : Int) (v3 : List CV) (v4 : Int) (v5 : Int), iterK n (codeK Tryd.prog (EDSize rk) 40 blpDSize_8) (head (EDSize rk) 8) ⟨[(1, .cl (.int .i64 v1)), (5, .cl (.int .i64 v2)), (26, .cl (.slg 3 v3)), (27, .cl (.int .i64 v4)), (28, .cl (.int .i64 v5))], []⟩ k = lpDSize_8 rk (fun y1 y2 y3 y4 y5 y6 y7 y8 y9 y10 y11 y12 y13 y14 y15 y16 y17 y18 y19 y20 y21 y22 y23 y24 y25 => k .ret ⟨[(1, .cl (.int .i64 y1)), (4, .cl (.int .i64 (-1))), (5, .cl (.int .i64 y2)), (7, .ptr 71 0 0), (8, .cl (.int .i64 y3)), (26, .cl (.slg 3 y4)), (27, .cl (.int .i64 y5)), (28, .cl (.int .i64 y6)), (29, .cl (.bool true)), (30, .cl (.vp (.slg 3 y7) y8 0)), (31, .cl (.agg [.int .i64 y9, .sli .u8 y10, .slg 3 y11])), (32, .cl (.agg [.int .i64 y12, .sli .u8 y13, .slg 3 y14])), (33, .cl (.int .i64 y15)), (34, .cl (.int .i64 y16)), (35, .cl (.int .i64 y17)), (36, .cl (.int .i64 y18)), (37, .cl (.int .i64 y19)), (38, .cl (.int .i64 y20)), (39, .cl (.int .i64 y21)), (40, .cl (.bool y22)), (41, .cl (.bool true)), (42, .tup []), (43, .tup []), (44, .cl (.bool true))], [(71, ⟨.var [.cl (.int .i64 y23), .cl (.sli .u8 y24), .cl (.slg 3 y25)], false⟩)]⟩) (fun y1 y2 y3 y4 y5 y6 y7 y8 y9 y10 y11 y12 y13 y14 y15 y16 y17 y18 y19 y20 y21 y22 y23 y24 y25 y26 y27 => k .ret ⟨[(1, .cl (.int .i64 y1)), (4, .cl (.int .i64 (-1))), (5, .cl (.int .i64 y2)), (7, .ptr 71 0 0), (8, .cl (.int .i64 y3)), (26, .cl (.slg 3 y4)), (27, .cl (.int .i64 y5)), (28, .cl (.int .i64 y6)), (29, .cl (.bool true)), (30, .cl (.vp (.slg 3 y7) y8 0)), (31, .cl (.agg [.int .i64 y9, .sli .u8 y10, .slg 3 y11])), (32, .cl (.agg [.int .i64 y12, .sli .u8 y13, .slg 3 y14])), (33, .cl (.int .i64 y15)), (34, .cl (.int .i64 y16)), (35, .cl (.int .i64 y17)), (36, .cl (.int .i64 y18)), (37, .cl (.int .i64 y19)), (38, .cl (.int .i64 y20)), (39, .cl (.int .i64 y21)), (40, .cl (.bool y22)), (41, .cl (.bool false)), (42, .cl (.int .i64 y23)), (43, .cl (.bool y24)), (44, .cl (.bool true))], [(71, ⟨.var [.cl (.int .i64 y25), .cl (.sli .u8 y26), .cl (.slg 3 y27)], false⟩)]⟩) (fun y1 y2 y3 y4 y5 => k (.exit 0) ⟨[(1, .cl (.int .i64 y1)), (5, .cl (.int .i64 y2)), (26, .cl (.slg 3 y3)), (27, .cl (.int .i64 y4)), (28, .cl (.int .i64 y5)), (29, .cl (.bool false))], []⟩) n v1 v2 v3 v4 v5
 | 0 => by intros; rfl
 | n + 1 => by
  intros
  rw [lpDSize_8_step]
  have ih := lpDSize_8_eq rk k n
  simp only [lpDSize_8, ih]
theorem LDSize_8_ok (rk : Nat) : ∀ (σ : St) (k : Ex -> St -> Option Out) (r : Out), LDSize_8 rk σ k = some r -> ∃ n, iterK n (codeK Tryd.prog (EDSize rk) 40 blpDSize_8) (head (EDSize rk) 8) σ k = some r := by
 intro σ k r h
 unfold LDSize_8 at h
 split at h
 ·replace h := cond_some h
  obtain ⟨hc, h⟩ := h
  simp only [Bool.and_eq_true, beq_prop, decide_eq_true_eq, Bool.not_eq_true'] at hc
  obtain ⟨⟨⟨⟨⟨rfl, rfl⟩, rfl⟩, rfl⟩, rfl⟩, rfl⟩ := hc
  rw [shut_eq] at h
  exact ⟨FUEL, (lpDSize_8_eq rk k FUEL _ _ _ _ _ ).trans h⟩
 ·cases h
theorem loopsDSize (rk : Nat) : ∀ c, Tryd.f113.body = some c -> LoopsOk Tryd.prog (EDSize rk) 40 c := by
 intro c hc
 cases hc
 exact ⟨trivial, ⟨⟨trivial, ⟨⟨trivial, trivial, jn_none rfl⟩, trivial, jn_none rfl⟩, jn_none rfl⟩, ⟨trivial, ⟨⟨trivial, ⟨⟨⟨trivial, ⟨⟨trivial, trivial, jn_none rfl⟩, trivial, jn_none rfl⟩, jn_none rfl⟩, ⟨trivial, ⟨⟨trivial, ⟨⟨trivial, trivial, jn_none rfl⟩, ⟨⟨trivial, ⟨trivial, ⟨trivial, ⟨trivial, ⟨⟨trivial, trivial, jn_none rfl⟩, trivial, jn_none rfl⟩, jn_none rfl⟩, jn_none rfl⟩, jn_none rfl⟩, jn_none rfl⟩, trivial, jn_none rfl⟩, jn_none rfl⟩, jn_none rfl⟩, lp_some rfl (LDSize_8_ok rk)⟩, jn_none rfl⟩, jn_none rfl⟩, ⟨trivial, ⟨⟨trivial, trivial, jn_none rfl⟩, trivial, jn_none rfl⟩, jn_none rfl⟩, jn_none rfl⟩, jn_none rfl⟩, ⟨trivial, trivial, jn_none rfl⟩, jn_none rfl⟩, jn_none rfl⟩, jn_none rfl⟩, jn_none rfl⟩
noncomputable def gDSize (rk : Nat) (ta : Int) (ba : List Int) (ka : List CV) (deep : Int) : Option Out :=
 cond (decide (deep = 0)) (
  some (.ret [.cl (.int .i64 (-1))] []))
 (
  let r1 : Bool := derKnown ta
  cond (!r1) (
   some (.ret [.cl (.int .i64 (-1))] []))
  (
   let r2 : Bool := derBoxed ta
   cond (r2) (
    cond (decide ((0 : Int) < ((ba.length : Nat) : Int))) (
     some (.ret [.cl (.int .i64 (-1))] []))
    (
     shut (lpDSize_8 rk
     (fun (y3 : Int) (y4 : Int) (y5 : Int) (y6 : List CV) (y7 : Int) (y8 : Int) (y9 : List CV) (y10 : Nat) (y11 : Int) (y12 : List Int) (y13 : List CV) (y14 : Int) (y15 : List Int) (y16 : List CV) (y17 : Int) (y18 : Int) (y19 : Int) (y20 : Int) (y21 : Int) (y22 : Int) (y23 : Int) (y24 : Bool) (y25 : Int) (y26 : List Int) (y27 : List CV) =>
      some (.ret [.cl (.int .i64 (-1))] []))
     (fun (y28 : Int) (y29 : Int) (y30 : Int) (y31 : List CV) (y32 : Int) (y33 : Int) (y34 : List CV) (y35 : Nat) (y36 : Int) (y37 : List Int) (y38 : List CV) (y39 : Int) (y40 : List Int) (y41 : List CV) (y42 : Int) (y43 : Int) (y44 : Int) (y45 : Int) (y46 : Int) (y47 : Int) (y48 : Int) (y49 : Bool) (y50 : Int) (y51 : Bool) (y52 : Int) (y53 : List Int) (y54 : List CV) =>
      some (.ret [.cl (.int .i64 (-1))] []))
     (fun (y55 : Int) (y56 : Int) (y57 : List CV) (y58 : Int) (y59 : Int) =>
      let r60 : Int := derLenSize y56
      let x61 : Int := IntKind.i64.wrap ((1 : Int) + r60)
      let x62 : Int := IntKind.i64.wrap (x61 + y56)
      some (.ret [.cl (.int .i64 x62)] []))
     FUEL) deep ((ba.length : Nat) : Int) ka ((ka.length : Nat) : Int) 0))
   (
    cond (decide ((0 : Int) < ((ka.length : Nat) : Int))) (
     some (.ret [.cl (.int .i64 (-1))] []))
    (
     cond (decide ((1048576 : Int) < ((ba.length : Nat) : Int))) (
      some (.ret [.cl (.int .i64 (-1))] []))
     (
      cond (bytesOk ba) (
      let r63 : Bool := derFits ta ba
      cond (!r63) (
       some (.ret [.cl (.int .i64 (-1))] []))
      (
       let r64 : Int := derLenSize ((ba.length : Nat) : Int)
       let x65 : Int := IntKind.i64.wrap ((1 : Int) + r64)
       let x66 : Int := IntKind.i64.wrap (x65 + ((ba.length : Nat) : Int))
       some (.ret [.cl (.int .i64 x66)] []))) none)))))
theorem gDSize_eq (rk : Nat) (ta : Int) (ba : List Int) (ka : List CV) (deep : Int) : bodyK Tryd.prog (EDSize rk) 40 false Tryd.f113 [.cl (.agg [.int .i64 ta, .sli .u8 ba, .slg 3 ka]), .cl (.int .i64 deep)] [] = gDSize rk ta ba ka deep := by kernel_rfl
end Go.Proofs.YtfkpjbbkdkcdcaaDoorA

namespace Go.Proofs.YtfkpjbbkdkcdcaaDoorA
noncomputable def lpDPut_7s (again : Nat -> Int -> Int -> (List Int) -> Option Out) (k0 : Nat -> Int -> Int -> Int -> (List Int) -> Option Out) (v1 : Nat) (v2 : Int) (v3 : Int) (v4 : List Int) : Option Out :=
 cond (decide ((0 : Int) <= v3)) (
  let x8 : Int := IntKind.i64.wrap ((8 : Int) * v3)
  cond (decide (x8 < 0)) none (
  let x9 : Int := Int.fdiv v2 (2 ^ (min x8.toNat 64))
  let x10 : Int := IntKind.u8.wrap x9
  let l11 : List Int := v4 ++ [x10]
  cond (Nat.ble (l11.length * 1) LIMN) (
  cond (Nat.ble l11.length LIMN) (
  let x12 : Int := IntKind.i64.wrap (v3 - 1)
  again l11.length v2 x12 l11) none) none))
 (
  k0 v1 v2 v3 v3 v4)
noncomputable def lpDPut_7 (k0 : Nat -> Int -> Int -> Int -> (List Int) -> Option Out) : Nat -> Nat -> Int -> Int -> (List Int) -> Option Out
 | 0 => fun _ _ _ _ => none
 | n + 1 => lpDPut_7s (lpDPut_7 k0 n) k0
noncomputable def LDPut_7 : St -> (Ex -> St -> Option Out) -> Option Out := fun σ k => match σ with
 | ⟨[(q1, .ref q2 q3 v1 true q4), (q5, .cl (.int .i64 v2)), (q6, .cl (.int .i64 v3))], [(q7, ⟨.ints .u8 v4, false⟩)]⟩ => cond (Nat.beq q1 0 && Nat.beq q2 93 && Nat.beq q3 0 && Nat.beq q4 1 && Nat.beq q5 2 && Nat.beq q6 8 && Nat.beq q7 93) (shut (lpDPut_7 (fun y1 y2 y3 y4 y5 => k (.exit 0) ⟨[(0, .ref 93 0 y1 true 1), (2, .cl (.int .i64 y2)), (8, .cl (.int .i64 y3)), (32, .cl (.int .i64 y4)), (33, .cl (.bool false))], [(93, ⟨.ints .u8 y5, false⟩)]⟩) FUEL) v1 v2 v3 v4) none
 | _ => none
noncomputable def EDPut : Env := {
 orc := fun g => cond (Nat.beq g 148) (SDLenSize) (fun _ _ => Tree.fail)
 pre := fun g => cond (Nat.beq g 148) (preDLenSize) (fun _ _ => true)
 byref := fun _ => []
 keep := fun _ => false
 live := fun r => cond (Nat.beq r 7) ([0, 2, 8]) ([])
 ren := fun r => cond (Nat.beq r 7) ([(107, 93)]) ([])
 glob := glVal
 nt := 45
 lp := fun r => cond (Nat.beq r 7) (some (LDPut_7)) (none)
}
noncomputable def blpDPut_7 : Code := (Cd.fst (Cd.fst (Cd.snd (Cd.fst (Cd.snd (Cd.snd (Cd.snd (Cd.snd (Cd.snd (Tryd.f149.body.getD .skip))))))))))
theorem lpDPut_7_step (k : Ex -> St -> Option Out) (n : Nat) (v1 : Nat) (v2 : Int) (v3 : Int) (v4 : List Int) : iterK (n + 1) (codeK Tryd.prog (EDPut) 40 blpDPut_7) (head (EDPut) 7) ⟨[(0, .ref 93 0 v1 true 1), (2, .cl (.int .i64 v2)), (8, .cl (.int .i64 v3))], [(93, ⟨.ints .u8 v4, false⟩)]⟩ k = lpDPut_7s (fun v1 v2 v3 v4 => iterK n (codeK Tryd.prog (EDPut) 40 blpDPut_7) (head (EDPut) 7) ⟨[(0, .ref 93 0 v1 true 1), (2, .cl (.int .i64 v2)), (8, .cl (.int .i64 v3))], [(93, ⟨.ints .u8 v4, false⟩)]⟩ k) (fun y1 y2 y3 y4 y5 => k (.exit 0) ⟨[(0, .ref 93 0 y1 true 1), (2, .cl (.int .i64 y2)), (8, .cl (.int .i64 y3)), (32, .cl (.int .i64 y4)), (33, .cl (.bool false))], [(93, ⟨.ints .u8 y5, false⟩)]⟩) v1 v2 v3 v4 := by kernel_rfl
theorem lpDPut_7_eq (k : Ex -> St -> Option Out) : ∀ (n : Nat), ∀ (v1 : Nat) (v2 : Int) (v3 : Int) (v4 : List Int), iterK n (codeK Tryd.prog (EDPut) 40 blpDPut_7) (head (EDPut) 7) ⟨[(0, .ref 93 0 v1 true 1), (2, .cl (.int .i64 v2)), (8, .cl (.int .i64 v3))], [(93, ⟨.ints .u8 v4, false⟩)]⟩ k = lpDPut_7 (fun y1 y2 y3 y4 y5 => k (.exit 0) ⟨[(0, .ref 93 0 y1 true 1), (2, .cl (.int .i64 y2)), (8, .cl (.int .i64 y3)), (32, .cl (.int .i64 y4)), (33, .cl (.bool false))], [(93, ⟨.ints .u8 y5, false⟩)]⟩) n v1 v2 v3 v4
 | 0 => by intros; rfl
 | n + 1 => by
  intros
  rw [lpDPut_7_step]
  have ih := lpDPut_7_eq k n
  simp only [lpDPut_7, ih]
theorem LDPut_7_ok : ∀ (σ : St) (k : Ex -> St -> Option Out) (r : Out), LDPut_7 σ k = some r -> ∃ n, iterK n (codeK Tryd.prog (EDPut) 40 blpDPut_7) (head (EDPut) 7) σ k = some r := by
 intro σ k r h
 unfold LDPut_7 at h
 split at h
 ·replace h := cond_some h
  obtain ⟨hc, h⟩ := h
  simp only [Bool.and_eq_true, beq_prop, decide_eq_true_eq, Bool.not_eq_true'] at hc
  obtain ⟨⟨⟨⟨⟨⟨rfl, rfl⟩, rfl⟩, rfl⟩, rfl⟩, rfl⟩, rfl⟩ := hc
  rw [shut_eq] at h
  exact ⟨FUEL, (lpDPut_7_eq k FUEL _ _ _ _ ).trans h⟩
 ·cases h
theorem loopsDPut : ∀ c, Tryd.f149.body = some c -> LoopsOk Tryd.prog (EDPut) 40 c := by
 intro c hc
 cases hc
 exact ⟨trivial, ⟨trivial, ⟨trivial, ⟨⟨trivial, ⟨⟨trivial, trivial, jn_none rfl⟩, trivial, jn_none rfl⟩, jn_none rfl⟩, ⟨trivial, ⟨⟨trivial, ⟨⟨⟨trivial, ⟨trivial, trivial, jn_none rfl⟩, jn_none rfl⟩, ⟨trivial, trivial, jn_none rfl⟩, jn_none rfl⟩, lp_some rfl (LDPut_7_ok)⟩, jn_none rfl⟩, ⟨trivial, trivial, jn_none rfl⟩, jn_none rfl⟩, jn_none rfl⟩, jn_none rfl⟩, jn_none rfl⟩, jn_none rfl⟩, jn_none rfl⟩
noncomputable def gDPut (tag : Int) (n : Int) : Option Out :=
 let x1 : Int := IntKind.u8.wrap tag
 let r2 : Int := derLenSize n
 let x3 : Int := IntKind.i64.wrap (r2 - 1)
 cond (decide (x3 = 0)) (
  let x4 : Int := IntKind.u8.wrap n
  some (.ret [.ref 0 0 2 true 1] [some ⟨.ints .u8 [x1, x4], false⟩]))
 (
  let x5 : Int := IntKind.i64.wrap ((128 : Int) + x3)
  let x6 : Int := IntKind.u8.wrap x5
  let x7 : Int := IntKind.i64.wrap (x3 - 1)
  shut (lpDPut_7
  (fun (y8 : Nat) (y9 : Int) (y10 : Int) (y11 : Int) (y12 : List Int) =>
   some (.ret [.ref 0 0 y8 true 1] [some ⟨.ints .u8 y12, false⟩]))
  FUEL) 2 n x7 [x1, x6])
theorem gDPut_eq (tag : Int) (n : Int) : bodyK Tryd.prog (EDPut) 40 true Tryd.f149 [.nils, .cl (.int .i64 tag), .cl (.int .i64 n)] [] = gDPut tag n := by kernel_rfl
end Go.Proofs.YtfkpjbbkdkcdcaaDoorA

namespace Go.Proofs.YtfkpjbbkdkcdcaaDoorA
end Go.Proofs.YtfkpjbbkdkcdcaaDoorA

namespace Go.Proofs.YtfkpjbbkdkcdcaaDoorA
end Go.Proofs.YtfkpjbbkdkcdcaaDoorA

namespace Go.Proofs.YtfkpjbbkdkcdcaaDoorA
noncomputable def lpSConcat_3s (again : (List CV) -> Int -> (List CV) -> Int -> Int -> Option Out) (k0 : ByteArray -> (List CV) -> Int -> (List Int) -> (List CV) -> Int -> Int -> (List CV) -> Nat -> (List Int) -> Int -> (List Int) -> Int -> Int -> Int -> ByteArray -> Option Out) (k1 : (List CV) -> Int -> (List CV) -> Int -> Int -> Option Out) (v1 : List CV) (v2 : Int) (v3 : List CV) (v4 : Int) (v5 : Int) : Option Out :=
 cond (decide (v5 < v4)) (
  cond (decide ((0 : Int) <= v5)) (
  cond (decide (v5 < ((v3.length : Nat) : Int))) (
  Option.bind (v3[(Int.toNat v5)]?) fun (e1 : CV) =>
  let e2 : CV := (cell1 e1).getD 0 .nili
  cond (okSli .u8 e2) (
  let l3 : List Int := cvSli e2
  let x4 : Int := IntKind.i64.wrap (v2 + ((l3.length : Nat) : Int))
  cond (decide (x4 < 0)) (
   k0 (⟨#[108, 101, 110, 32, 111, 117, 116, 32, 111, 102, 32, 114, 97, 110, 103, 101]⟩ : ByteArray) v1 x4 l3 v3 v4 v5 v3 (Int.toNat v5) l3 v2 l3 ((l3.length : Nat) : Int) x4 x4 (⟨#[108, 101, 110, 32, 111, 117, 116, 32, 111, 102, 32, 114, 97, 110, 103, 101]⟩ : ByteArray))
  (
   let x5 : Int := IntKind.i64.wrap (v5 + 1)
   again v1 x4 v3 v4 x5)) none) none) none)
 (
  k1 v1 v2 v3 v4 v5)
noncomputable def lpSConcat_3 (k0 : ByteArray -> (List CV) -> Int -> (List Int) -> (List CV) -> Int -> Int -> (List CV) -> Nat -> (List Int) -> Int -> (List Int) -> Int -> Int -> Int -> ByteArray -> Option Out) (k1 : (List CV) -> Int -> (List CV) -> Int -> Int -> Option Out) : Nat -> (List CV) -> Int -> (List CV) -> Int -> Int -> Option Out
 | 0 => fun _ _ _ _ _ => none
 | n + 1 => lpSConcat_3s (lpSConcat_3 k0 k1 n) k0 k1
noncomputable def lpSConcat_11s (again : Nat -> (List CV) -> Int -> Int -> (List Int) -> Option Out) (k0 : Nat -> (List CV) -> Int -> Int -> (List Int) -> Option Out) (v1 : Nat) (v2 : List CV) (v3 : Int) (v4 : Int) (v5 : List Int) : Option Out :=
 cond (decide (v4 < v3)) (
  cond (decide ((0 : Int) <= v4)) (
  cond (decide (v4 < ((v2.length : Nat) : Int))) (
  Option.bind (v2[(Int.toNat v4)]?) fun (e23 : CV) =>
  let e24 : CV := (cell1 e23).getD 0 .nili
  cond (okSli .u8 e24) (
  let l25 : List Int := cvSli e24
  let l26 : List Int := v5 ++ l25
  cond (Nat.ble (l26.length * 1) LIMN) (
  cond (Nat.ble l26.length LIMN) (
  let x27 : Int := IntKind.i64.wrap (v4 + 1)
  again l26.length v2 v3 x27 l26) none) none) none) none) none)
 (
  k0 v1 v2 v3 v4 v5)
noncomputable def lpSConcat_11 (k0 : Nat -> (List CV) -> Int -> Int -> (List Int) -> Option Out) : Nat -> Nat -> (List CV) -> Int -> Int -> (List Int) -> Option Out
 | 0 => fun _ _ _ _ _ => none
 | n + 1 => lpSConcat_11s (lpSConcat_11 k0 n) k0
noncomputable def LSConcat_3 : St -> (Ex -> St -> Option Out) -> Option Out := fun σ k => match σ with
 | ⟨[(q1, .cl (.slg q2 v1)), (q3, .cl (.int .i64 v2)), (q4, .cl (.slg q5 v3)), (q6, .cl (.int .i64 v4)), (q7, .cl (.int .i64 v5))], []⟩ => cond (Nat.beq q1 0 && Nat.beq q2 1 && Nat.beq q3 3 && Nat.beq q4 9 && Nat.beq q5 1 && Nat.beq q6 10 && Nat.beq q7 11) (shut (lpSConcat_3 (fun y1 y2 y3 y4 y5 y6 y7 y8 y9 y10 y11 y12 y13 y14 y15 y16 => k (.pan (.iface 9 (.str y1))) ⟨[(0, .cl (.slg 1 y2)), (3, .cl (.int .i64 y3)), (5, .cl (.sli .u8 y4)), (9, .cl (.slg 1 y5)), (10, .cl (.int .i64 y6)), (11, .cl (.int .i64 y7)), (12, .cl (.bool true)), (13, .cl (.vp (.slg 1 y8) y9 0)), (14, .cl (.sli .u8 y10)), (15, .cl (.int .i64 y11)), (16, .cl (.sli .u8 y12)), (17, .cl (.int .i64 y13)), (18, .cl (.int .i64 y14)), (19, .cl (.int .i64 y15)), (20, .cl (.bool true)), (21, .cl (.iface 9 (.str y16)))], []⟩) (fun y1 y2 y3 y4 y5 => k (.exit 0) ⟨[(0, .cl (.slg 1 y1)), (3, .cl (.int .i64 y2)), (9, .cl (.slg 1 y3)), (10, .cl (.int .i64 y4)), (11, .cl (.int .i64 y5)), (12, .cl (.bool false))], []⟩) FUEL) v1 v2 v3 v4 v5) none
 | _ => none
noncomputable def LSConcat_11 : St -> (Ex -> St -> Option Out) -> Option Out := fun σ k => match σ with
 | ⟨[(q1, .ref q2 q3 v1 true q4), (q5, .cl (.slg q6 v2)), (q7, .cl (.int .i64 v3)), (q8, .cl (.int .i64 v4))], [(q9, ⟨.ints .u8 v5, false⟩)]⟩ => cond (Nat.beq q1 6 && Nat.beq q2 88 && Nat.beq q3 0 && Nat.beq q4 1 && Nat.beq q5 25 && Nat.beq q6 1 && Nat.beq q7 26 && Nat.beq q8 27 && Nat.beq q9 88) (shut (lpSConcat_11 (fun y1 y2 y3 y4 y5 => k (.exit 2) ⟨[(6, .ref 88 0 y1 true 1), (25, .cl (.slg 1 y2)), (26, .cl (.int .i64 y3)), (27, .cl (.int .i64 y4)), (28, .cl (.bool false))], [(88, ⟨.ints .u8 y5, false⟩)]⟩) FUEL) v1 v2 v3 v4 v5) none
 | _ => none
noncomputable def ESConcat : Env := {
 orc := fun g => cond (Nat.beq g 164) (SSGrow) (fun _ _ => Tree.fail)
 pre := fun g => cond (Nat.beq g 164) (preSGrow) (fun _ _ => true)
 byref := fun g => cond (Nat.beq g 164) ([0]) ([])
 keep := fun g => cond (Nat.beq g 164) (true) (false)
 live := fun r => cond (Nat.beq r 3) ([0, 3, 9, 10, 11]) (cond (Nat.beq r 11) ([6, 25, 26, 27]) ([]))
 ren := fun r => cond (Nat.beq r 11) ([(97, 88)]) ([])
 glob := glVal
 nt := 36
 lp := fun r => cond (Nat.beq r 3) (some (LSConcat_3)) (cond (Nat.beq r 11) (some (LSConcat_11)) (none))
}
noncomputable def blpSConcat_3 : Code := (Cd.fst (Cd.fst (Cd.snd (Cd.fst (Cd.snd (Cd.snd (Tryd.f151.body.getD .skip)))))))
theorem lpSConcat_3_step (k : Ex -> St -> Option Out) (n : Nat) (v1 : List CV) (v2 : Int) (v3 : List CV) (v4 : Int) (v5 : Int) : iterK (n + 1) (codeK Tryd.prog (ESConcat) 40 blpSConcat_3) (head (ESConcat) 3) ⟨[(0, .cl (.slg 1 v1)), (3, .cl (.int .i64 v2)), (9, .cl (.slg 1 v3)), (10, .cl (.int .i64 v4)), (11, .cl (.int .i64 v5))], []⟩ k = lpSConcat_3s (fun v1 v2 v3 v4 v5 => iterK n (codeK Tryd.prog (ESConcat) 40 blpSConcat_3) (head (ESConcat) 3) ⟨[(0, .cl (.slg 1 v1)), (3, .cl (.int .i64 v2)), (9, .cl (.slg 1 v3)), (10, .cl (.int .i64 v4)), (11, .cl (.int .i64 v5))], []⟩ k) (fun y1 y2 y3 y4 y5 y6 y7 y8 y9 y10 y11 y12 y13 y14 y15 y16 => k (.pan (.iface 9 (.str y1))) ⟨[(0, .cl (.slg 1 y2)), (3, .cl (.int .i64 y3)), (5, .cl (.sli .u8 y4)), (9, .cl (.slg 1 y5)), (10, .cl (.int .i64 y6)), (11, .cl (.int .i64 y7)), (12, .cl (.bool true)), (13, .cl (.vp (.slg 1 y8) y9 0)), (14, .cl (.sli .u8 y10)), (15, .cl (.int .i64 y11)), (16, .cl (.sli .u8 y12)), (17, .cl (.int .i64 y13)), (18, .cl (.int .i64 y14)), (19, .cl (.int .i64 y15)), (20, .cl (.bool true)), (21, .cl (.iface 9 (.str y16)))], []⟩) (fun y1 y2 y3 y4 y5 => k (.exit 0) ⟨[(0, .cl (.slg 1 y1)), (3, .cl (.int .i64 y2)), (9, .cl (.slg 1 y3)), (10, .cl (.int .i64 y4)), (11, .cl (.int .i64 y5)), (12, .cl (.bool false))], []⟩) v1 v2 v3 v4 v5 := by kernel_rfl
theorem lpSConcat_3_eq (k : Ex -> St -> Option Out) : ∀ (n : Nat), ∀ (v1 : List CV) (v2 : Int) (v3 : List CV) (v4 : Int) (v5 : Int), iterK n (codeK Tryd.prog (ESConcat) 40 blpSConcat_3) (head (ESConcat) 3) ⟨[(0, .cl (.slg 1 v1)), (3, .cl (.int .i64 v2)), (9, .cl (.slg 1 v3)), (10, .cl (.int .i64 v4)), (11, .cl (.int .i64 v5))], []⟩ k = lpSConcat_3 (fun y1 y2 y3 y4 y5 y6 y7 y8 y9 y10 y11 y12 y13 y14 y15 y16 => k (.pan (.iface 9 (.str y1))) ⟨[(0, .cl (.slg 1 y2)), (3, .cl (.int .i64 y3)), (5, .cl (.sli .u8 y4)), (9, .cl (.slg 1 y5)), (10, .cl (.int .i64 y6)), (11, .cl (.int .i64 y7)), (12, .cl (.bool true)), (13, .cl (.vp (.slg 1 y8) y9 0)), (14, .cl (.sli .u8 y10)), (15, .cl (.int .i64 y11)), (16, .cl (.sli .u8 y12)), (17, .cl (.int .i64 y13)), (18, .cl (.int .i64 y14)), (19, .cl (.int .i64 y15)), (20, .cl (.bool true)), (21, .cl (.iface 9 (.str y16)))], []⟩) (fun y1 y2 y3 y4 y5 => k (.exit 0) ⟨[(0, .cl (.slg 1 y1)), (3, .cl (.int .i64 y2)), (9, .cl (.slg 1 y3)), (10, .cl (.int .i64 y4)), (11, .cl (.int .i64 y5)), (12, .cl (.bool false))], []⟩) n v1 v2 v3 v4 v5
 | 0 => by intros; rfl
 | n + 1 => by
  intros
  rw [lpSConcat_3_step]
  have ih := lpSConcat_3_eq k n
  simp only [lpSConcat_3, ih]
noncomputable def blpSConcat_11 : Code := (Cd.fst (Cd.fst (Cd.snd (Cd.fst (Cd.snd (Cd.snd (Cd.snd (Cd.snd (Tryd.f151.body.getD .skip)))))))))
theorem lpSConcat_11_step (k : Ex -> St -> Option Out) (n : Nat) (v1 : Nat) (v2 : List CV) (v3 : Int) (v4 : Int) (v5 : List Int) : iterK (n + 1) (codeK Tryd.prog (ESConcat) 40 blpSConcat_11) (head (ESConcat) 11) ⟨[(6, .ref 88 0 v1 true 1), (25, .cl (.slg 1 v2)), (26, .cl (.int .i64 v3)), (27, .cl (.int .i64 v4))], [(88, ⟨.ints .u8 v5, false⟩)]⟩ k = lpSConcat_11s (fun v1 v2 v3 v4 v5 => iterK n (codeK Tryd.prog (ESConcat) 40 blpSConcat_11) (head (ESConcat) 11) ⟨[(6, .ref 88 0 v1 true 1), (25, .cl (.slg 1 v2)), (26, .cl (.int .i64 v3)), (27, .cl (.int .i64 v4))], [(88, ⟨.ints .u8 v5, false⟩)]⟩ k) (fun y1 y2 y3 y4 y5 => k (.exit 2) ⟨[(6, .ref 88 0 y1 true 1), (25, .cl (.slg 1 y2)), (26, .cl (.int .i64 y3)), (27, .cl (.int .i64 y4)), (28, .cl (.bool false))], [(88, ⟨.ints .u8 y5, false⟩)]⟩) v1 v2 v3 v4 v5 := by kernel_rfl
theorem lpSConcat_11_eq (k : Ex -> St -> Option Out) : ∀ (n : Nat), ∀ (v1 : Nat) (v2 : List CV) (v3 : Int) (v4 : Int) (v5 : List Int), iterK n (codeK Tryd.prog (ESConcat) 40 blpSConcat_11) (head (ESConcat) 11) ⟨[(6, .ref 88 0 v1 true 1), (25, .cl (.slg 1 v2)), (26, .cl (.int .i64 v3)), (27, .cl (.int .i64 v4))], [(88, ⟨.ints .u8 v5, false⟩)]⟩ k = lpSConcat_11 (fun y1 y2 y3 y4 y5 => k (.exit 2) ⟨[(6, .ref 88 0 y1 true 1), (25, .cl (.slg 1 y2)), (26, .cl (.int .i64 y3)), (27, .cl (.int .i64 y4)), (28, .cl (.bool false))], [(88, ⟨.ints .u8 y5, false⟩)]⟩) n v1 v2 v3 v4 v5
 | 0 => by intros; rfl
 | n + 1 => by
  intros
  rw [lpSConcat_11_step]
  have ih := lpSConcat_11_eq k n
  simp only [lpSConcat_11, ih]
theorem LSConcat_3_ok : ∀ (σ : St) (k : Ex -> St -> Option Out) (r : Out), LSConcat_3 σ k = some r -> ∃ n, iterK n (codeK Tryd.prog (ESConcat) 40 blpSConcat_3) (head (ESConcat) 3) σ k = some r := by
 intro σ k r h
 unfold LSConcat_3 at h
 split at h
 ·replace h := cond_some h
  obtain ⟨hc, h⟩ := h
  simp only [Bool.and_eq_true, beq_prop, decide_eq_true_eq, Bool.not_eq_true'] at hc
  obtain ⟨⟨⟨⟨⟨⟨rfl, rfl⟩, rfl⟩, rfl⟩, rfl⟩, rfl⟩, rfl⟩ := hc
  rw [shut_eq] at h
  exact ⟨FUEL, (lpSConcat_3_eq k FUEL _ _ _ _ _ ).trans h⟩
 ·cases h
theorem LSConcat_11_ok : ∀ (σ : St) (k : Ex -> St -> Option Out) (r : Out), LSConcat_11 σ k = some r -> ∃ n, iterK n (codeK Tryd.prog (ESConcat) 40 blpSConcat_11) (head (ESConcat) 11) σ k = some r := by
 intro σ k r h
 unfold LSConcat_11 at h
 split at h
 ·replace h := cond_some h
  obtain ⟨hc, h⟩ := h
  simp only [Bool.and_eq_true, beq_prop, decide_eq_true_eq, Bool.not_eq_true'] at hc
  obtain ⟨⟨⟨⟨⟨⟨⟨⟨rfl, rfl⟩, rfl⟩, rfl⟩, rfl⟩, rfl⟩, rfl⟩, rfl⟩, rfl⟩ := hc
  rw [shut_eq] at h
  exact ⟨FUEL, (lpSConcat_11_eq k FUEL _ _ _ _ _ ).trans h⟩
 ·cases h
theorem loopsSConcat : ∀ c, Tryd.f151.body = some c -> LoopsOk Tryd.prog (ESConcat) 40 c := by
 intro c hc
 cases hc
 exact ⟨trivial, ⟨trivial, ⟨⟨trivial, ⟨⟨trivial, ⟨⟨trivial, trivial, jn_none rfl⟩, ⟨⟨trivial, ⟨trivial, ⟨trivial, ⟨trivial, trivial, jn_none rfl⟩, jn_none rfl⟩, jn_none rfl⟩, jn_none rfl⟩, trivial, jn_none rfl⟩, jn_none rfl⟩, jn_none rfl⟩, lp_some rfl (LSConcat_3_ok)⟩, jn_none rfl⟩, ⟨trivial, ⟨⟨trivial, ⟨⟨trivial, ⟨⟨trivial, trivial, jn_none rfl⟩, ⟨⟨trivial, trivial, jn_none rfl⟩, trivial, jn_none rfl⟩, jn_none rfl⟩, jn_none rfl⟩, lp_some rfl (LSConcat_11_ok)⟩, jn_none rfl⟩, ⟨trivial, trivial, jn_none rfl⟩, jn_none rfl⟩, jn_none rfl⟩, jn_none rfl⟩, jn_none rfl⟩, jn_none rfl⟩
noncomputable def gSConcat (l : List CV) : Option Out :=
 shut (lpSConcat_3
 (fun (y1 : ByteArray) (y2 : List CV) (y3 : Int) (y4 : List Int) (y5 : List CV) (y6 : Int) (y7 : Int) (y8 : List CV) (y9 : Nat) (y10 : List Int) (y11 : Int) (y12 : List Int) (y13 : Int) (y14 : Int) (y15 : Int) (y16 : ByteArray) =>
  some (.pan (.iface 9 (.str y1)) []))
 (fun (y17 : List CV) (y18 : Int) (y19 : List CV) (y20 : Int) (y21 : Int) =>
  cond (growOk y18) (
  let r22 : List Int := noInts
  shut (lpSConcat_11
  (fun (y23 : Nat) (y24 : List CV) (y25 : Int) (y26 : Int) (y27 : List Int) =>
   some (.ret [.cl (.sli .u8 y27)] []))
  FUEL) 0 y17 ((y17.length : Nat) : Int) 0 r22) none)
 FUEL) l 0 l ((l.length : Nat) : Int) 0
theorem gSConcat_eq (l : List CV) : bodyK Tryd.prog (ESConcat) 40 false Tryd.f151 [.cl (.slg 1 l)] [] = gSConcat l := by kernel_rfl
end Go.Proofs.YtfkpjbbkdkcdcaaDoorA

namespace Go.Proofs.YtfkpjbbkdkcdcaaDoorA
noncomputable def lpDWrite_6s (rk : Nat) (again : Nat -> Int -> (List CV) -> Int -> Int -> Int -> (List Int) -> (List CV) -> (List CV) -> Option Out) (k0 : Nat -> Int -> Int -> (List Int) -> Bool -> (List CV) -> Int -> Int -> Int -> (List CV) -> Nat -> Int -> (List Int) -> (List CV) -> (List Int) -> Bool -> Int -> (List Int) -> (List CV) -> (List Int) -> Bool -> (List Int) -> Bool -> Bool -> Int -> (List Int) -> (List CV) -> Int -> (List Int) -> (List CV) -> (List CV) -> Option Out) (k1 : Nat -> Int -> (List CV) -> Int -> Int -> Int -> (List Int) -> (List CV) -> (List CV) -> Option Out) (v1 : Nat) (v2 : Int) (v3 : List CV) (v4 : Int) (v5 : Int) (v6 : Int) (v7 : List Int) (v8 : List CV) (v9 : List CV) : Option Out :=
 cond (decide (v5 < v4)) (
  cond (decide ((0 : Int) <= v5)) (
  cond (decide (v5 < ((v3.length : Nat) : Int))) (
  Option.bind (v3[(Int.toNat v5)]?) fun (e5 : CV) =>
  let e6 : CV := (cell1 e5).headD .nili
  let e7 : CV := (cell1 e5).tail.headD .nili
  let e8 : CV := (cell1 e5).tail.tail.headD .nili
  cond (okInt .i64 e6 && (okSli .u8 e7 && (okSlg 3 e8 && true))) (
  let i9 : Int := cvInt e6
  let l10 : List Int := cvSli e7
  let l11 : List CV := cvSlg e8
  cond (isWr rk [.int .i64 i9, .sli .u8 l10, .slg 3 l11]) (
  let r12 : List Int := (ndWrite [.int .i64 i9, .sli .u8 l10, .slg 3 l11]).1
  let r13 : Bool := (ndWrite [.int .i64 i9, .sli .u8 l10, .slg 3 l11]).2
  cond (!r13) (
   k0 v1 v2 v5 r12 r13 v3 v4 v5 v5 v3 (Int.toNat v5) i9 l10 l11 r12 r13 i9 l10 l11 r12 r13 r12 r13 r13 v6 v7 v8 i9 l10 l11 v9)
  (
   let x14 : Int := IntKind.i64.wrap (v2 + ((r12.length : Nat) : Int))
   cond (decide ((0 : Int) <= v5)) (
   cond (decide (v5 < ((v1 : Nat) : Int))) (
   let l15 : List CV := v9.set (0 + (Int.toNat v5)) (.sli .u8 r12)
   let x16 : Int := IntKind.i64.wrap (v5 + 1)
   again v1 x14 v3 v4 x16 v6 v7 v8 l15) none) none)) none) none) none) none)
 (
  k1 v1 v2 v3 v4 v5 v6 v7 v8 v9)
noncomputable def lpDWrite_6 (rk : Nat) (k0 : Nat -> Int -> Int -> (List Int) -> Bool -> (List CV) -> Int -> Int -> Int -> (List CV) -> Nat -> Int -> (List Int) -> (List CV) -> (List Int) -> Bool -> Int -> (List Int) -> (List CV) -> (List Int) -> Bool -> (List Int) -> Bool -> Bool -> Int -> (List Int) -> (List CV) -> Int -> (List Int) -> (List CV) -> (List CV) -> Option Out) (k1 : Nat -> Int -> (List CV) -> Int -> Int -> Int -> (List Int) -> (List CV) -> (List CV) -> Option Out) : Nat -> Nat -> Int -> (List CV) -> Int -> Int -> Int -> (List Int) -> (List CV) -> (List CV) -> Option Out
 | 0 => fun _ _ _ _ _ _ _ _ _ => none
 | n + 1 => lpDWrite_6s rk (lpDWrite_6 rk k0 k1 n) k0 k1
noncomputable def LDWrite_6 (rk : Nat) : St -> (Ex -> St -> Option Out) -> Option Out := fun σ k => match σ with
 | ⟨[(q1, .ptr q2 q3 q4), (q5, .ref q6 q7 v1 true q8), (q9, .cl (.int .i64 v2)), (q10, .cl (.slg q11 v3)), (q12, .cl (.int .i64 v4)), (q13, .cl (.int .i64 v5))], [(q14, ⟨.var [.cl (.int .i64 v6), .cl (.sli .u8 v7), .cl (.slg q15 v8)], false⟩), (q16, ⟨.gen q17 v9, false⟩)]⟩ => cond (Nat.beq q1 1 && Nat.beq q2 65 && Nat.beq q3 0 && Nat.beq q4 0 && Nat.beq q5 4 && Nat.beq q6 90 && Nat.beq q7 0 && Nat.beq q8 1 && Nat.beq q9 5 && Nat.beq q10 28 && Nat.beq q11 3 && Nat.beq q12 29 && Nat.beq q13 30 && Nat.beq q14 65 && Nat.beq q15 3 && Nat.beq q16 90 && Nat.beq q17 1) (shut (lpDWrite_6 rk (fun y1 y2 y3 y4 y5 y6 y7 y8 y9 y10 y11 y12 y13 y14 y15 y16 y17 y18 y19 y20 y21 y22 y23 y24 y25 y26 y27 y28 y29 y30 y31 => k .ret ⟨[(1, .ptr 65 0 0), (2, .ref 66 0 0 true 1), (3, .cl (.bool false)), (4, .ref 90 0 y1 true 1), (5, .cl (.int .i64 y2)), (6, .cl (.int .i64 y3)), (7, .ptr 71 0 0), (8, .cl (.sli .u8 y4)), (9, .cl (.bool y5)), (28, .cl (.slg 3 y6)), (29, .cl (.int .i64 y7)), (30, .cl (.int .i64 y8)), (31, .cl (.bool true)), (32, .cl (.int .i64 y9)), (33, .cl (.vp (.slg 3 y10) y11 0)), (34, .cl (.agg [.int .i64 y12, .sli .u8 y13, .slg 3 y14])), (35, .tup [.cl (.sli .u8 y15), .cl (.bool y16)]), (36, .cl (.agg [.int .i64 y17, .sli .u8 y18, .slg 3 y19])), (37, .tup [.cl (.sli .u8 y20), .cl (.bool y21)]), (38, .cl (.sli .u8 y22)), (39, .cl (.bool y23)), (40, .cl (.bool y24)), (41, .cl (.bool true))], [(65, ⟨.var [.cl (.int .i64 y25), .cl (.sli .u8 y26), .cl (.slg 3 y27)], false⟩), (66, ⟨.ints .u8 [], false⟩), (71, ⟨.var [.cl (.int .i64 y28), .cl (.sli .u8 y29), .cl (.slg 3 y30)], false⟩), (90, ⟨.gen 1 y31, false⟩)]⟩) (fun y1 y2 y3 y4 y5 y6 y7 y8 y9 => k (.exit 0) ⟨[(1, .ptr 65 0 0), (4, .ref 90 0 y1 true 1), (5, .cl (.int .i64 y2)), (28, .cl (.slg 3 y3)), (29, .cl (.int .i64 y4)), (30, .cl (.int .i64 y5)), (31, .cl (.bool false))], [(65, ⟨.var [.cl (.int .i64 y6), .cl (.sli .u8 y7), .cl (.slg 3 y8)], false⟩), (90, ⟨.gen 1 y9, false⟩)]⟩) FUEL) v1 v2 v3 v4 v5 v6 v7 v8 v9) none
 | _ => none
noncomputable def EDWrite (rk : Nat) : Env := {
 orc := fun g => cond (Nat.beq g 100) (SDBoxed) (cond (Nat.beq g 114) (SDWrite) (cond (Nat.beq g 149) (SDPut) (cond (Nat.beq g 150) (SOSorted) (cond (Nat.beq g 151) (SSConcat) (fun _ _ => Tree.fail)))))
 pre := fun g => cond (Nat.beq g 100) (preDBoxed) (cond (Nat.beq g 114) (preRDWrite (rk)) (cond (Nat.beq g 149) (preDPut) (cond (Nat.beq g 150) (preOSorted) (cond (Nat.beq g 151) (preSConcat) (fun _ _ => true)))))
 byref := fun g => cond (Nat.beq g 149) ([0]) ([])
 keep := fun g => cond (Nat.beq g 149) (true) (false)
 live := fun r => cond (Nat.beq r 6) ([1, 4, 5, 28, 29, 30]) ([])
 ren := fun _ => []
 glob := glVal
 nt := 66
 lp := fun r => cond (Nat.beq r 6) (some (LDWrite_6 rk)) (none)
}
noncomputable def blpDWrite_6 : Code := (Cd.fst (Cd.fst (Cd.snd (Cd.fst (Cd.snd (Cd.snd (Cd.snd (Cd.snd (Tryd.f114.body.getD .skip)))))))))
theorem lpDWrite_6_step (rk : Nat) (k : Ex -> St -> Option Out) (n : Nat) (v1 : Nat) (v2 : Int) (v3 : List CV) (v4 : Int) (v5 : Int) (v6 : Int) (v7 : List Int) (v8 : List CV) (v9 : List CV) : iterK (n + 1) (codeK Tryd.prog (EDWrite rk) 40 blpDWrite_6) (head (EDWrite rk) 6) ⟨[(1, .ptr 65 0 0), (4, .ref 90 0 v1 true 1), (5, .cl (.int .i64 v2)), (28, .cl (.slg 3 v3)), (29, .cl (.int .i64 v4)), (30, .cl (.int .i64 v5))], [(65, ⟨.var [.cl (.int .i64 v6), .cl (.sli .u8 v7), .cl (.slg 3 v8)], false⟩), (90, ⟨.gen 1 v9, false⟩)]⟩ k = lpDWrite_6s rk (fun v1 v2 v3 v4 v5 v6 v7 v8 v9 => iterK n (codeK Tryd.prog (EDWrite rk) 40 blpDWrite_6) (head (EDWrite rk) 6) ⟨[(1, .ptr 65 0 0), (4, .ref 90 0 v1 true 1), (5, .cl (.int .i64 v2)), (28, .cl (.slg 3 v3)), (29, .cl (.int .i64 v4)), (30, .cl (.int .i64 v5))], [(65, ⟨.var [.cl (.int .i64 v6), .cl (.sli .u8 v7), .cl (.slg 3 v8)], false⟩), (90, ⟨.gen 1 v9, false⟩)]⟩ k) (fun y1 y2 y3 y4 y5 y6 y7 y8 y9 y10 y11 y12 y13 y14 y15 y16 y17 y18 y19 y20 y21 y22 y23 y24 y25 y26 y27 y28 y29 y30 y31 => k .ret ⟨[(1, .ptr 65 0 0), (2, .ref 66 0 0 true 1), (3, .cl (.bool false)), (4, .ref 90 0 y1 true 1), (5, .cl (.int .i64 y2)), (6, .cl (.int .i64 y3)), (7, .ptr 71 0 0), (8, .cl (.sli .u8 y4)), (9, .cl (.bool y5)), (28, .cl (.slg 3 y6)), (29, .cl (.int .i64 y7)), (30, .cl (.int .i64 y8)), (31, .cl (.bool true)), (32, .cl (.int .i64 y9)), (33, .cl (.vp (.slg 3 y10) y11 0)), (34, .cl (.agg [.int .i64 y12, .sli .u8 y13, .slg 3 y14])), (35, .tup [.cl (.sli .u8 y15), .cl (.bool y16)]), (36, .cl (.agg [.int .i64 y17, .sli .u8 y18, .slg 3 y19])), (37, .tup [.cl (.sli .u8 y20), .cl (.bool y21)]), (38, .cl (.sli .u8 y22)), (39, .cl (.bool y23)), (40, .cl (.bool y24)), (41, .cl (.bool true))], [(65, ⟨.var [.cl (.int .i64 y25), .cl (.sli .u8 y26), .cl (.slg 3 y27)], false⟩), (66, ⟨.ints .u8 [], false⟩), (71, ⟨.var [.cl (.int .i64 y28), .cl (.sli .u8 y29), .cl (.slg 3 y30)], false⟩), (90, ⟨.gen 1 y31, false⟩)]⟩) (fun y1 y2 y3 y4 y5 y6 y7 y8 y9 => k (.exit 0) ⟨[(1, .ptr 65 0 0), (4, .ref 90 0 y1 true 1), (5, .cl (.int .i64 y2)), (28, .cl (.slg 3 y3)), (29, .cl (.int .i64 y4)), (30, .cl (.int .i64 y5)), (31, .cl (.bool false))], [(65, ⟨.var [.cl (.int .i64 y6), .cl (.sli .u8 y7), .cl (.slg 3 y8)], false⟩), (90, ⟨.gen 1 y9, false⟩)]⟩) v1 v2 v3 v4 v5 v6 v7 v8 v9 := by kernel_rfl
theorem lpDWrite_6_eq (rk : Nat) (k : Ex -> St -> Option Out) : ∀ (n : Nat), ∀ (v1 : Nat) (v2 : Int) (v3 : List CV) (v4 : Int) (v5 : Int) (v6 : Int) (v7 : List Int) (v8 : List CV) (v9 : List CV), iterK n (codeK Tryd.prog (EDWrite rk) 40 blpDWrite_6) (head (EDWrite rk) 6) ⟨[(1, .ptr 65 0 0), (4, .ref 90 0 v1 true 1), (5, .cl (.int .i64 v2)), (28, .cl (.slg 3 v3)), (29, .cl (.int .i64 v4)), (30, .cl (.int .i64 v5))], [(65, ⟨.var [.cl (.int .i64 v6), .cl (.sli .u8 v7), .cl (.slg 3 v8)], false⟩), (90, ⟨.gen 1 v9, false⟩)]⟩ k = lpDWrite_6 rk (fun y1 y2 y3 y4 y5 y6 y7 y8 y9 y10 y11 y12 y13 y14 y15 y16 y17 y18 y19 y20 y21 y22 y23 y24 y25 y26 y27 y28 y29 y30 y31 => k .ret ⟨[(1, .ptr 65 0 0), (2, .ref 66 0 0 true 1), (3, .cl (.bool false)), (4, .ref 90 0 y1 true 1), (5, .cl (.int .i64 y2)), (6, .cl (.int .i64 y3)), (7, .ptr 71 0 0), (8, .cl (.sli .u8 y4)), (9, .cl (.bool y5)), (28, .cl (.slg 3 y6)), (29, .cl (.int .i64 y7)), (30, .cl (.int .i64 y8)), (31, .cl (.bool true)), (32, .cl (.int .i64 y9)), (33, .cl (.vp (.slg 3 y10) y11 0)), (34, .cl (.agg [.int .i64 y12, .sli .u8 y13, .slg 3 y14])), (35, .tup [.cl (.sli .u8 y15), .cl (.bool y16)]), (36, .cl (.agg [.int .i64 y17, .sli .u8 y18, .slg 3 y19])), (37, .tup [.cl (.sli .u8 y20), .cl (.bool y21)]), (38, .cl (.sli .u8 y22)), (39, .cl (.bool y23)), (40, .cl (.bool y24)), (41, .cl (.bool true))], [(65, ⟨.var [.cl (.int .i64 y25), .cl (.sli .u8 y26), .cl (.slg 3 y27)], false⟩), (66, ⟨.ints .u8 [], false⟩), (71, ⟨.var [.cl (.int .i64 y28), .cl (.sli .u8 y29), .cl (.slg 3 y30)], false⟩), (90, ⟨.gen 1 y31, false⟩)]⟩) (fun y1 y2 y3 y4 y5 y6 y7 y8 y9 => k (.exit 0) ⟨[(1, .ptr 65 0 0), (4, .ref 90 0 y1 true 1), (5, .cl (.int .i64 y2)), (28, .cl (.slg 3 y3)), (29, .cl (.int .i64 y4)), (30, .cl (.int .i64 y5)), (31, .cl (.bool false))], [(65, ⟨.var [.cl (.int .i64 y6), .cl (.sli .u8 y7), .cl (.slg 3 y8)], false⟩), (90, ⟨.gen 1 y9, false⟩)]⟩) n v1 v2 v3 v4 v5 v6 v7 v8 v9
 | 0 => by intros; rfl
 | n + 1 => by
  intros
  rw [lpDWrite_6_step]
  have ih := lpDWrite_6_eq rk k n
  simp only [lpDWrite_6, ih]
theorem LDWrite_6_ok (rk : Nat) : ∀ (σ : St) (k : Ex -> St -> Option Out) (r : Out), LDWrite_6 rk σ k = some r -> ∃ n, iterK n (codeK Tryd.prog (EDWrite rk) 40 blpDWrite_6) (head (EDWrite rk) 6) σ k = some r := by
 intro σ k r h
 unfold LDWrite_6 at h
 split at h
 ·replace h := cond_some h
  obtain ⟨hc, h⟩ := h
  simp only [Bool.and_eq_true, beq_prop, decide_eq_true_eq, Bool.not_eq_true'] at hc
  obtain ⟨⟨⟨⟨⟨⟨⟨⟨⟨⟨⟨⟨⟨⟨⟨⟨rfl, rfl⟩, rfl⟩, rfl⟩, rfl⟩, rfl⟩, rfl⟩, rfl⟩, rfl⟩, rfl⟩, rfl⟩, rfl⟩, rfl⟩, rfl⟩, rfl⟩, rfl⟩, rfl⟩ := hc
  rw [shut_eq] at h
  exact ⟨FUEL, (lpDWrite_6_eq rk k FUEL _ _ _ _ _ _ _ _ _ ).trans h⟩
 ·cases h
theorem loopsDWrite (rk : Nat) : ∀ c, Tryd.f114.body = some c -> LoopsOk Tryd.prog (EDWrite rk) 40 c := by
 intro c hc
 cases hc
 exact ⟨trivial, ⟨⟨trivial, ⟨⟨trivial, trivial, jn_none rfl⟩, trivial, jn_none rfl⟩, jn_none rfl⟩, ⟨trivial, ⟨trivial, ⟨⟨trivial, ⟨⟨trivial, ⟨⟨trivial, trivial, jn_none rfl⟩, ⟨⟨trivial, ⟨trivial, ⟨⟨trivial, ⟨⟨trivial, trivial, jn_none rfl⟩, trivial, jn_none rfl⟩, jn_none rfl⟩, trivial, jn_none rfl⟩, jn_none rfl⟩, jn_none rfl⟩, trivial, jn_none rfl⟩, jn_none rfl⟩, jn_none rfl⟩, lp_some rfl (LDWrite_6_ok rk)⟩, jn_none rfl⟩, ⟨⟨trivial, ⟨⟨trivial, trivial, jn_none rfl⟩, trivial, jn_none rfl⟩, jn_none rfl⟩, ⟨trivial, trivial, jn_none rfl⟩, jn_none rfl⟩, jn_none rfl⟩, jn_none rfl⟩, jn_none rfl⟩, jn_none rfl⟩, jn_none rfl⟩
noncomputable def gDWrite (rk : Nat) (ta : Int) (ba : List Int) (ka : List CV) : Option Out :=
 let r1 : Bool := derBoxed ta
 cond (!r1) (
  cond (headOk ta ((ba.length : Nat) : Int)) (
  let r3 : List Int := derHead ta ((ba.length : Nat) : Int)
  let l4 : List Int := r3 ++ ba
  cond (Nat.ble (l4.length * 1) LIMN) (
  cond (Nat.ble l4.length LIMN) (
  some (.ret [.cl (.sli .u8 l4), .cl (.bool true)] [])) none) none) none)
 (
  cond (decide ((0 : Int) <= ((ka.length : Nat) : Int))) (
  cond (decide (((ka.length : Nat) : Int) <= ((ka.length : Nat) : Int))) (
  cond (decide (((ka.length : Nat) : Int) * 24 <= LIM)) (
  cond (decide (((ka.length : Nat) : Int) <= LIM)) (
  shut (lpDWrite_6 rk
  (fun (y5 : Nat) (y6 : Int) (y7 : Int) (y8 : List Int) (y9 : Bool) (y10 : List CV) (y11 : Int) (y12 : Int) (y13 : Int) (y14 : List CV) (y15 : Nat) (y16 : Int) (y17 : List Int) (y18 : List CV) (y19 : List Int) (y20 : Bool) (y21 : Int) (y22 : List Int) (y23 : List CV) (y24 : List Int) (y25 : Bool) (y26 : List Int) (y27 : Bool) (y28 : Bool) (y29 : Int) (y30 : List Int) (y31 : List CV) (y32 : Int) (y33 : List Int) (y34 : List CV) (y35 : List CV) =>
   some (.ret [.cl (.sli .u8 []), .cl (.bool false)] []))
  (fun (y36 : Nat) (y37 : Int) (y38 : List CV) (y39 : Int) (y40 : Int) (y41 : Int) (y42 : List Int) (y43 : List CV) (y44 : List CV) =>
   cond (decide (y41 = 49)) (
    cond (rowsOk y44) (
    let r45 : Bool := rowsSorted y44
    cond (!r45) (
     some (.ret [.cl (.sli .u8 []), .cl (.bool false)] []))
    (
     cond (headOk y41 y37) (
     let r47 : List Int := derHead y41 y37
     cond (joinOk y44) (
     let r48 : List Int := rowsJoin y44
     let l49 : List Int := r47 ++ r48
     cond (Nat.ble (l49.length * 1) LIMN) (
     cond (Nat.ble l49.length LIMN) (
     some (.ret [.cl (.sli .u8 l49), .cl (.bool true)] [])) none) none) none) none)) none)
   (
    cond (headOk y41 y37) (
    let r51 : List Int := derHead y41 y37
    cond (joinOk y44) (
    let r52 : List Int := rowsJoin y44
    let l53 : List Int := r51 ++ r52
    cond (Nat.ble (l53.length * 1) LIMN) (
    cond (Nat.ble l53.length LIMN) (
    some (.ret [.cl (.sli .u8 l53), .cl (.bool true)] [])) none) none) none) none))
  FUEL) (Int.toNat ((ka.length : Nat) : Int)) 0 ka ((ka.length : Nat) : Int) 0 ta ba ka (List.replicate (Int.toNat ((ka.length : Nat) : Int)) (.sli .u8 []))) none) none) none) none)
theorem gDWrite_eq (rk : Nat) (ta : Int) (ba : List Int) (ka : List CV) : bodyK Tryd.prog (EDWrite rk) 40 false Tryd.f114 [.cl (.agg [.int .i64 ta, .sli .u8 ba, .slg 3 ka])] [] = gDWrite rk ta ba ka := by kernel_rfl
end Go.Proofs.YtfkpjbbkdkcdcaaDoorA

namespace Go.Proofs.YtfkpjbbkdkcdcaaDoorA
end Go.Proofs.YtfkpjbbkdkcdcaaDoorA

namespace Go.Proofs.YtfkpjbbkdkcdcaaDoorA
noncomputable def EDBytes : Env := {
 orc := fun g => cond (Nat.beq g 113) (SDSize) (cond (Nat.beq g 114) (SDWrite) (fun _ _ => Tree.fail))
 pre := fun g => cond (Nat.beq g 113) (preDSize) (cond (Nat.beq g 114) (preDWrite) (fun _ _ => true))
 byref := fun _ => []
 keep := fun _ => false
 live := fun _ => []
 ren := fun _ => []
 glob := glVal
 nt := 23
 lp := fun _ => none
}
theorem loopsDBytes : ∀ c, Tryd.f68.body = some c -> LoopsOk Tryd.prog (EDBytes) 40 c := by
 intro c hc
 cases hc
 exact ⟨trivial, ⟨⟨trivial, ⟨trivial, ⟨⟨trivial, trivial, jn_none rfl⟩, trivial, jn_none rfl⟩, jn_none rfl⟩, jn_none rfl⟩, ⟨trivial, ⟨⟨trivial, ⟨⟨trivial, trivial, jn_none rfl⟩, trivial, jn_none rfl⟩, jn_none rfl⟩, ⟨trivial, trivial, jn_none rfl⟩, jn_none rfl⟩, jn_none rfl⟩, jn_none rfl⟩, jn_none rfl⟩
noncomputable def gDBytes (ta : Int) (ba : List Int) (ka : List CV) : Option Out :=
 cond (isS [.int .i64 ta, .sli .u8 ba, .slg 3 ka] && deepOk 32) (
 let r1 : Int := ndSize [.int .i64 ta, .sli .u8 ba, .slg 3 ka] 32
 cond (decide (r1 < 0)) (
  some (.ret [.cl (.sli .u8 []), .cl (.int .i64 1)] []))
 (
  cond (decide ((1048576 : Int) < r1)) (
   some (.ret [.cl (.sli .u8 []), .cl (.int .i64 1)] []))
  (
   cond (isW [.int .i64 ta, .sli .u8 ba, .slg 3 ka]) (
   let r2 : List Int := (ndWrite [.int .i64 ta, .sli .u8 ba, .slg 3 ka]).1
   let r3 : Bool := (ndWrite [.int .i64 ta, .sli .u8 ba, .slg 3 ka]).2
   cond (!r3) (
    some (.ret [.cl (.sli .u8 []), .cl (.int .i64 1)] []))
   (
    some (.ret [.cl (.sli .u8 r2), .cl (.int .i64 0)] []))) none))) none
theorem gDBytes_eq (ta : Int) (ba : List Int) (ka : List CV) : bodyK Tryd.prog (EDBytes) 40 false Tryd.f68 [.cl (.agg [.int .i64 ta, .sli .u8 ba, .slg 3 ka])] [] = gDBytes ta ba ka := by kernel_rfl
end Go.Proofs.YtfkpjbbkdkcdcaaDoorA

namespace Go.Proofs.YtfkpjbbkdkcdcaaDoorA
noncomputable def EDFit_ : Env := {
 orc := fun g => cond (Nat.beq g 68) (SDBytes) (fun _ _ => Tree.fail)
 pre := fun g => cond (Nat.beq g 68) (preDBytes) (fun _ _ => true)
 byref := fun _ => []
 keep := fun _ => false
 live := fun _ => []
 ren := fun _ => []
 glob := glVal
 nt := 12
 lp := fun _ => none
}
theorem loopsDFit_ : ∀ c, Tryd.f119.body = some c -> LoopsOk Tryd.prog (EDFit_) 40 c := by
 intro c hc
 cases hc
 exact ⟨trivial, ⟨trivial, ⟨trivial, trivial, jn_none rfl⟩, jn_none rfl⟩, jn_none rfl⟩
noncomputable def gDFit_ (ta : Int) (ba : List Int) (ka : List CV) : Option Out :=
 cond (isS [.int .i64 ta, .sli .u8 ba, .slg 3 ka]) (
 let r2 : Int := (ndBytes [.int .i64 ta, .sli .u8 ba, .slg 3 ka]).2
 some (.ret [.cl (.bool (decide (r2 = 0)))] [])) none
theorem gDFit__eq (ta : Int) (ba : List Int) (ka : List CV) : bodyK Tryd.prog (EDFit_) 40 false Tryd.f119 [.cl (.agg [.int .i64 ta, .sli .u8 ba, .slg 3 ka])] [] = gDFit_ ta ba ka := by kernel_rfl
end Go.Proofs.YtfkpjbbkdkcdcaaDoorA

namespace Go.Proofs.YtfkpjbbkdkcdcaaDoorA
end Go.Proofs.YtfkpjbbkdkcdcaaDoorA

namespace Go.Proofs.YtfkpjbbkdkcdcaaDoorA
end Go.Proofs.YtfkpjbbkdkcdcaaDoorA

namespace Go.Proofs.YtfkpjbbkdkcdcaaDoorA
noncomputable def lpR2Same_4s (again : (List Int) -> (List Int) -> Int -> Option Out) (k0 : Option Out) (k1 : Option Out) (v1 : List Int) (v2 : List Int) (v3 : Int) : Option Out :=
 cond (decide (v3 < ((v1.length : Nat) : Int))) (
  getK v1 v3 fun e1 =>
  getK v2 v3 fun e2 =>
  cond (!decide (e1 = e2)) (
   k0)
  (
   let x3 : Int := IntKind.i64.wrap (v3 + 1)
   again v1 v2 x3))
 (
  k1)
noncomputable def lpR2Same_4 (k0 : Option Out) (k1 : Option Out) : Nat -> (List Int) -> (List Int) -> Int -> Option Out := iterF (fun a => lpR2Same_4s a k0 k1) (fun _ _ _ => none)
noncomputable def LR2Same_4 : St -> (Ex -> St -> Option Out) -> Option Out := fun σ k => match σ with
 | ⟨[(q1, .cl (.sli .u32 v1)), (q2, .cl (.sli .u32 v2)), (q3, .cl (.int .i64 v3))], []⟩ => cond (Nat.beq q1 0 && Nat.beq q2 1 && Nat.beq q3 5) (shut (lpR2Same_4 (k .ret ⟨[(4, .cl (.bool false))], []⟩) (k (.exit 0) ⟨[], []⟩) FUEL) v1 v2 v3) none
 | _ => none
noncomputable def ER2Same : Env := {
 orc := fun _ => fun _ _ => Tree.fail
 pre := fun _ => fun _ _ => true
 byref := fun _ => []
 keep := fun _ => false
 live := fun r => cond (Nat.beq r 4) ([0, 1, 5]) ([])
 ren := fun _ => []
 glob := glVal
 nt := 26
 lp := fun r => cond (Nat.beq r 4) (some (LR2Same_4)) (none)
 xl := fun r => cond (Nat.beq r 0) (some [4]) (cond (Nat.beq r 1) (some []) (none))
}
noncomputable def blpR2Same_4 : Code := (Cd.fst (Cd.fst (Cd.snd (Cd.fst (Cd.snd (Cd.snd (Tryd.f29.body.getD .skip)))))))
theorem LR2Same_4_ok : LpOk Tryd.prog (ER2Same) 40 blpR2Same_4 4 LR2Same_4 := by
 intro σ k r h
 unfold LR2Same_4 at h
 split at h
 ·replace h := cond_some h
  obtain ⟨hc, h⟩ := h
  simp only [Bool.and_eq_true, beq_prop, decide_eq_true_eq, Bool.not_eq_true'] at hc
  obtain ⟨⟨rfl, rfl⟩, rfl⟩ := hc
  rw [shut_eq] at h
  exact ⟨FUEL, iter_ok (F := fun n v1 v2 v3 => iterK n (codeK Tryd.prog (ER2Same) 40 blpR2Same_4) (head (ER2Same) 4) ⟨[(0, .cl (.sli .u32 v1)), (1, .cl (.sli .u32 v2)), (5, .cl (.int .i64 v3))], []⟩ k) (Q := fun f => f _ _ _ = some r) rfl (fun n => by kernel_rfl) h⟩
 ·cases h
theorem loopsR2Same : ∀ c, Tryd.f29.body = some c -> LoopsOk Tryd.prog (ER2Same) 40 c := by
 intro c hc
 cases hc
 exact ⟨trivial, ⟨⟨trivial, ⟨⟨trivial, trivial, jn_none rfl⟩, trivial, jn_none rfl⟩, jn_none rfl⟩, ⟨⟨trivial, ⟨⟨⟨trivial, ⟨trivial, trivial, jn_none rfl⟩, jn_none rfl⟩, ⟨⟨trivial, ⟨⟨trivial, trivial, jn_none rfl⟩, trivial, jn_none rfl⟩, jn_none rfl⟩, trivial, jn_none rfl⟩, jn_none rfl⟩, lp_some rfl (LR2Same_4_ok)⟩, jn_none rfl⟩, ⟨trivial, trivial, jn_none rfl⟩, jn_none rfl⟩, jn_none rfl⟩, jn_none rfl⟩
noncomputable def gR2Same (a : List Int) (b : List Int) : Option Out :=
 cond (!decide (((a.length : Nat) : Int) = ((b.length : Nat) : Int))) (
  some (.ret [.cl (.bool false)] []))
 (
  shut (lpR2Same_4
  (
   some (.ret [.cl (.bool false)] []))
  (
   some (.ret [.cl (.bool true)] []))
  FUEL) a b 0)
theorem gR2Same_eq (a : List Int) (b : List Int) : bodyK Tryd.prog (ER2Same) 40 false Tryd.f29 [.cl (.sli .u32 a), .cl (.sli .u32 b)] [] = gR2Same a b := by kernel_rfl
end Go.Proofs.YtfkpjbbkdkcdcaaDoorA

namespace Go.Proofs.YtfkpjbbkdkcdcaaDoorA
noncomputable def lpSEq32_4s (again : (List Int) -> (List Int) -> Int -> Int -> Option Out) (k0 : Option Out) (k1 : Option Out) (v1 : List Int) (v2 : List Int) (v3 : Int) (v4 : Int) : Option Out :=
 cond (decide (v4 < v3)) (
  getK v1 v4 fun e1 =>
  getK v2 v4 fun e2 =>
  cond (!decide (e1 = e2)) (
   k0)
  (
   let x3 : Int := IntKind.i64.wrap (v4 + 1)
   again v1 v2 v3 x3))
 (
  k1)
noncomputable def lpSEq32_4 (k0 : Option Out) (k1 : Option Out) : Nat -> (List Int) -> (List Int) -> Int -> Int -> Option Out := iterF (fun a => lpSEq32_4s a k0 k1) (fun _ _ _ _ => none)
noncomputable def LSEq32_4 : St -> (Ex -> St -> Option Out) -> Option Out := fun σ k => match σ with
 | ⟨[(q1, .cl (.sli .u32 v1)), (q2, .cl (.sli .u32 v2)), (q3, .cl (.int .i64 v3)), (q4, .cl (.int .i64 v4))], []⟩ => cond (Nat.beq q1 0 && Nat.beq q2 1 && Nat.beq q3 12 && Nat.beq q4 13) (shut (lpSEq32_4 (k .ret ⟨[(4, .cl (.bool false))], []⟩) (k (.exit 0) ⟨[], []⟩) FUEL) v1 v2 v3 v4) none
 | _ => none
noncomputable def ESEq32 : Env := {
 orc := fun _ => fun _ _ => Tree.fail
 pre := fun _ => fun _ _ => true
 byref := fun _ => []
 keep := fun _ => false
 live := fun r => cond (Nat.beq r 4) ([0, 1, 12, 13]) ([])
 ren := fun _ => []
 glob := glVal
 nt := 26
 lp := fun r => cond (Nat.beq r 4) (some (LSEq32_4)) (none)
 xl := fun r => cond (Nat.beq r 0) (some [4]) (cond (Nat.beq r 1) (some []) (none))
}
noncomputable def blpSEq32_4 : Code := (Cd.fst (Cd.fst (Cd.snd (Cd.fst (Cd.snd (Cd.snd (Tryd.f133.body.getD .skip)))))))
theorem LSEq32_4_ok : LpOk Tryd.prog (ESEq32) 40 blpSEq32_4 4 LSEq32_4 := by
 intro σ k r h
 unfold LSEq32_4 at h
 split at h
 ·replace h := cond_some h
  obtain ⟨hc, h⟩ := h
  simp only [Bool.and_eq_true, beq_prop, decide_eq_true_eq, Bool.not_eq_true'] at hc
  obtain ⟨⟨⟨rfl, rfl⟩, rfl⟩, rfl⟩ := hc
  rw [shut_eq] at h
  exact ⟨FUEL, iter_ok (F := fun n v1 v2 v3 v4 => iterK n (codeK Tryd.prog (ESEq32) 40 blpSEq32_4) (head (ESEq32) 4) ⟨[(0, .cl (.sli .u32 v1)), (1, .cl (.sli .u32 v2)), (12, .cl (.int .i64 v3)), (13, .cl (.int .i64 v4))], []⟩ k) (Q := fun f => f _ _ _ _ = some r) rfl (fun n => by kernel_rfl) h⟩
 ·cases h
theorem loopsSEq32 : ∀ c, Tryd.f133.body = some c -> LoopsOk Tryd.prog (ESEq32) 40 c := by
 intro c hc
 cases hc
 exact ⟨trivial, ⟨⟨trivial, ⟨⟨trivial, trivial, jn_none rfl⟩, trivial, jn_none rfl⟩, jn_none rfl⟩, ⟨⟨trivial, ⟨⟨trivial, ⟨⟨trivial, trivial, jn_none rfl⟩, ⟨⟨trivial, ⟨trivial, ⟨⟨trivial, trivial, jn_none rfl⟩, trivial, jn_none rfl⟩, jn_none rfl⟩, jn_none rfl⟩, trivial, jn_none rfl⟩, jn_none rfl⟩, jn_none rfl⟩, lp_some rfl (LSEq32_4_ok)⟩, jn_none rfl⟩, ⟨trivial, trivial, jn_none rfl⟩, jn_none rfl⟩, jn_none rfl⟩, jn_none rfl⟩
noncomputable def gSEq32 (a : List Int) (b : List Int) : Option Out :=
 cond (!decide (((a.length : Nat) : Int) = ((b.length : Nat) : Int))) (
  some (.ret [.cl (.bool false)] []))
 (
  shut (lpSEq32_4
  (
   some (.ret [.cl (.bool false)] []))
  (
   some (.ret [.cl (.bool true)] []))
  FUEL) a b ((a.length : Nat) : Int) 0)
theorem gSEq32_eq (a : List Int) (b : List Int) : bodyK Tryd.prog (ESEq32) 40 false Tryd.f133 [.cl (.sli .u32 a), .cl (.sli .u32 b)] [] = gSEq32 a b := by kernel_rfl
end Go.Proofs.YtfkpjbbkdkcdcaaDoorA

namespace Go.Proofs.YtfkpjbbkdkcdcaaDoorA
noncomputable def EOSame : Env := {
 orc := fun g => cond (Nat.beq g 133) (SSEq32) (fun _ _ => Tree.fail)
 pre := fun g => cond (Nat.beq g 133) (preSEq32) (fun _ _ => true)
 byref := fun _ => []
 keep := fun _ => false
 live := fun _ => []
 ren := fun _ => []
 glob := glVal
 nt := 8
 lp := fun _ => none
 xl := fun r => cond (Nat.beq r 0) (some [4]) (none)
}
theorem loopsOSame : ∀ c, Tryd.f98.body = some c -> LoopsOk Tryd.prog (EOSame) 40 c := by
 intro c hc
 cases hc
 exact ⟨trivial, ⟨trivial, trivial, jn_none rfl⟩, jn_none rfl⟩
noncomputable def gOSame (a : List Int) (b : List Int) : Option Out :=
 cond (lenOk a) (
 let r1 : Bool := listSame a b
 some (.ret [.cl (.bool r1)] [])) none
theorem gOSame_eq (a : List Int) (b : List Int) : bodyK Tryd.prog (EOSame) 40 false Tryd.f98 [.cl (.sli .u32 a), .cl (.sli .u32 b)] [] = gOSame a b := by kernel_rfl
end Go.Proofs.YtfkpjbbkdkcdcaaDoorA
