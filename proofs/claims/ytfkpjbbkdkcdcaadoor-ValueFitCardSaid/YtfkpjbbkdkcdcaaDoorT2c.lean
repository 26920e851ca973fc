/-
 What the reading of apostille/oid.put comes to, printed by a program. Conditions: none.
-/
import Derived.Test.YtfkpjbbkdkcdcaaDoorT1
set_option linter.unusedVariables false
set_option linter.unusedSimpArgs false
set_option maxRecDepth 100000
namespace Go.Proofs.YtfkpjbbkdkcdcaaDoorA
end Go.Proofs.YtfkpjbbkdkcdcaaDoorA

namespace Go.Proofs.YtfkpjbbkdkcdcaaDoorA
end Go.Proofs.YtfkpjbbkdkcdcaaDoorA

namespace Go.Proofs.YtfkpjbbkdkcdcaaDoorA
end Go.Proofs.YtfkpjbbkdkcdcaaDoorA

namespace Go.Proofs.YtfkpjbbkdkcdcaaDoorA
end Go.Proofs.YtfkpjbbkdkcdcaaDoorA

namespace Go.Proofs.YtfkpjbbkdkcdcaaDoorA
noncomputable def lpVBNum_3s (again : Int -> (List Int) -> Int -> Int -> Option Out) (k0 : Int -> Option Out) (v1 : Int) (v2 : List Int) (v3 : Int) (v4 : Int) : Option Out :=
 cond (decide (v4 < v3)) (
  getK v2 v4 fun e1 =>
  let x2 : Int := IntKind.u64.wrap (v1 * 2 ^ 8)
  let x3 : Int := IntKind.u64.wrap e1
  let x4 : Int := IntKind.u64.wrap ((BitVec.ofInt 64 x2 ||| BitVec.ofInt 64 x3).toNat)
  let x5 : Int := IntKind.i64.wrap (v4 + 1)
  again x4 v2 v3 x5)
 (
  k0 v1)
noncomputable def lpVBNum_3 (k0 : Int -> Option Out) : Nat -> Int -> (List Int) -> Int -> Int -> Option Out := iterF (fun a => lpVBNum_3s a k0) (fun _ _ _ _ => none)
noncomputable def LVBNum_3 : St -> (Ex -> St -> Option Out) -> Option Out := fun σ k => match σ with
 | ⟨[(q1, .cl (.int .u64 v1)), (q2, .cl (.sli .u8 v2)), (q3, .cl (.int .i64 v3)), (q4, .cl (.int .i64 v4))], []⟩ => cond (Nat.beq q1 3 && Nat.beq q2 6 && Nat.beq q3 7 && Nat.beq q4 8) (shut (lpVBNum_3 (fun y1 => k (.exit 0) ⟨[(3, .cl (.int .u64 y1))], []⟩) FUEL) v1 v2 v3 v4) none
 | _ => none
noncomputable def EVBNum : Env := {
 orc := fun _ => fun _ _ => Tree.fail
 pre := fun _ => fun _ _ => true
 byref := fun _ => []
 keep := fun _ => false
 live := fun r => cond (Nat.beq r 3) ([3, 6, 7, 8]) ([])
 ren := fun _ => []
 glob := glVal
 nt := 19
 lp := fun r => cond (Nat.beq r 3) (some (LVBNum_3)) (none)
 xl := fun r => cond (Nat.beq r 0) (some [2]) (cond (Nat.beq r 1) (some [3]) (none))
}
noncomputable def blpVBNum_3 : Code := (Cd.fst (Cd.fst (Cd.snd (Cd.fst (Cd.snd (Cd.snd (Tryd.f120.body.getD .skip)))))))
theorem LVBNum_3_ok : LpOk Tryd.prog (EVBNum) 40 blpVBNum_3 3 LVBNum_3 := by
 intro σ k r h
 unfold LVBNum_3 at h
 split at h
 ·replace h := qab h
  obtain ⟨hc, h⟩ := h
  simp only [Bool.and_eq_true, beq_prop, decide_eq_true_eq, Bool.not_eq_true'] at hc
  obtain ⟨⟨⟨rfl, rfl⟩, rfl⟩, rfl⟩ := hc
  rw [qac] at h
  exact ⟨FUEL, iter_ok (F := fun n v1 v2 v3 v4 => iterK n (codeK Tryd.prog (EVBNum) 40 blpVBNum_3) (head (EVBNum) 3) ⟨[(3, .cl (.int .u64 v1)), (6, .cl (.sli .u8 v2)), (7, .cl (.int .i64 v3)), (8, .cl (.int .i64 v4))], []⟩ k) (Q := fun f => f _ _ _ _ = some r) rfl (fun n => by kernel_rfl) h⟩
 ·cases h
theorem loopsVBNum : ∀ c, Tryd.f120.body = some c -> LoopsOk Tryd.prog (EVBNum) 40 c := by
 intro c hc
 cases hc
 exact ⟨trivial, ⟨trivial, ⟨⟨trivial, ⟨⟨trivial, ⟨⟨trivial, trivial, qaa rfl⟩, ⟨⟨trivial, trivial, qaa rfl⟩, trivial, qaa rfl⟩, qaa rfl⟩, qaa rfl⟩, lp_some rfl (LVBNum_3_ok)⟩, qaa rfl⟩, ⟨trivial, trivial, qaa rfl⟩, qaa rfl⟩, qaa rfl⟩, qaa rfl⟩
noncomputable def gVBNum (b : List Int) : Option Out :=
 shut (lpVBNum_3
 (fun (y1 : Int) =>
  some (.ret [.cl (.int .u64 y1)] []))
 FUEL) 0 b ((b.length : Nat) : Int) 0
theorem gVBNum_eq (b : List Int) : bodyK Tryd.prog (EVBNum) 40 false Tryd.f120 [.cl (.sli .u8 b)] [] = gVBNum b := by kernel_rfl
end Go.Proofs.YtfkpjbbkdkcdcaaDoorA

namespace Go.Proofs.YtfkpjbbkdkcdcaaDoorA
noncomputable def EVLe : Env := {
 orc := fun _ => fun _ _ => Tree.fail
 pre := fun _ => fun _ _ => true
 byref := fun _ => []
 keep := fun _ => false
 live := fun r => cond (Nat.beq r 5) ([0, 5, 16, 17]) ([])
 ren := fun _ => []
 glob := glVal
 nt := 30
 lp := fun _ => none
 xl := fun r => cond (Nat.beq r 0) (some [4]) (cond (Nat.beq r 1) (some [5]) (none))
}
theorem loopsVLe : ∀ c, Tryd.f117.body = some c -> LoopsOk Tryd.prog (EVLe) 40 c := by
 intro c hc
 cases hc
 exact ⟨trivial, ⟨⟨trivial, ⟨⟨trivial, trivial, qaa rfl⟩, trivial, qaa rfl⟩, qaa rfl⟩, ⟨trivial, ⟨⟨trivial, ⟨⟨trivial, ⟨⟨trivial, trivial, qaa rfl⟩, ⟨⟨trivial, trivial, qaa rfl⟩, trivial, qaa rfl⟩, qaa rfl⟩, qaa rfl⟩, lp_none rfl⟩, qaa rfl⟩, ⟨trivial, trivial, qaa rfl⟩, qaa rfl⟩, qaa rfl⟩, qaa rfl⟩, qaa rfl⟩
noncomputable def gVLe (n : Int) : Option Out :=
 let x1 : Int := Int.fdiv n (2 ^ 0)
 let x2 : Int := IntKind.u8.wrap x1
 let x3 : Int := Int.fdiv n (2 ^ 8)
 let x4 : Int := IntKind.u8.wrap x3
 let x5 : Int := Int.fdiv n (2 ^ 16)
 let x6 : Int := IntKind.u8.wrap x5
 let x7 : Int := Int.fdiv n (2 ^ 24)
 let x8 : Int := IntKind.u8.wrap x7
 let x9 : Int := Int.fdiv n (2 ^ 32)
 let x10 : Int := IntKind.u8.wrap x9
 let x11 : Int := Int.fdiv n (2 ^ 40)
 let x12 : Int := IntKind.u8.wrap x11
 let x13 : Int := Int.fdiv n (2 ^ 48)
 let x14 : Int := IntKind.u8.wrap x13
 let x15 : Int := Int.fdiv n (2 ^ 56)
 let x16 : Int := IntKind.u8.wrap x15
 some (.ret [.ref 0 0 8 true 1] [some ⟨.ints .u8 [x2, x4, x6, x8, x10, x12, x14, x16], false⟩])
theorem gVLe_eq (n : Int) : bodyK Tryd.prog (EVLe) 40 true Tryd.f117 [.cl (.int .u64 n), .cl (.int .i64 8)] [] = gVLe n := by kernel_rfl
end Go.Proofs.YtfkpjbbkdkcdcaaDoorA

namespace Go.Proofs.YtfkpjbbkdkcdcaaDoorA
noncomputable def EVReverse : Env := {
 orc := fun _ => fun _ _ => Tree.fail
 pre := fun _ => fun _ _ => true
 byref := fun _ => []
 keep := fun _ => false
 live := fun r => cond (Nat.beq r 1) ([0, 2, 3]) ([])
 ren := fun _ => []
 glob := glVal
 nt := 28
 lp := fun _ => none
 xl := fun r => cond (Nat.beq r 0) (some []) (cond (Nat.beq r 1) (some []) (none))
}
theorem loopsVReverse : ∀ c, Tryd.f118.body = some c -> LoopsOk Tryd.prog (EVReverse) 40 c := by
 intro c hc
 cases hc
 exact ⟨trivial, ⟨⟨⟨trivial, ⟨trivial, trivial, qaa rfl⟩, qaa rfl⟩, ⟨trivial, trivial, qaa rfl⟩, qaa rfl⟩, lp_none rfl⟩, qaa rfl⟩
noncomputable def gVReverse (l : List Int) : Option Out :=
 Option.bind (l[7]?) fun (e1 : Int) =>
 Option.bind (l[0]?) fun (e2 : Int) =>
 let l3 : List Int := l.set 0 e1
 let l4 : List Int := l3.set 7 e2
 Option.bind (l4[6]?) fun (e5 : Int) =>
 Option.bind (l4[1]?) fun (e6 : Int) =>
 let l7 : List Int := l4.set 1 e5
 let l8 : List Int := l7.set 6 e6
 Option.bind (l8[5]?) fun (e9 : Int) =>
 Option.bind (l8[2]?) fun (e10 : Int) =>
 let l11 : List Int := l8.set 2 e9
 let l12 : List Int := l11.set 5 e10
 Option.bind (l12[4]?) fun (e13 : Int) =>
 Option.bind (l12[3]?) fun (e14 : Int) =>
 let l15 : List Int := l12.set 3 e13
 let l16 : List Int := l15.set 4 e14
 some (.ret [] [some ⟨.ints .u8 l16, false⟩])
theorem gVReverse_eq (l : List Int) : bodyK Tryd.prog (EVReverse) 40 false Tryd.f118 [.ref 0 0 8 true 1] [⟨.ints .u8 l, false⟩] = gVReverse l := by kernel_rfl
end Go.Proofs.YtfkpjbbkdkcdcaaDoorA

namespace Go.Proofs.YtfkpjbbkdkcdcaaDoorA
noncomputable def EVBe : Env := {
 orc := fun g => cond (Nat.beq g 117) (SVLe) (cond (Nat.beq g 118) (SVReverse) (fun _ _ => Tree.fail))
 pre := fun g => cond (Nat.beq g 117) (preVLe) (cond (Nat.beq g 118) (preVReverse) (fun _ _ => true))
 byref := fun g => cond (Nat.beq g 118) ([0]) ([])
 keep := fun g => cond (Nat.beq g 117) (true) (false)
 live := fun _ => []
 ren := fun _ => []
 glob := glVal
 nt := 12
 lp := fun _ => none
 xl := fun r => cond (Nat.beq r 0) (some [4]) (none)
}
theorem loopsVBe : ∀ c, Tryd.f73.body = some c -> LoopsOk Tryd.prog (EVBe) 40 c := by
 intro c hc
 cases hc
 exact ⟨trivial, ⟨trivial, ⟨trivial, ⟨trivial, trivial, qaa rfl⟩, qaa rfl⟩, qaa rfl⟩, qaa rfl⟩
noncomputable def gVBe (n : Int) : Option Out :=
 cond (u64Ok n) (
 let r1 : List Int := vLe n
 cond (revOk r1) (
 let r2 : List Int := vRev r1
 some (.ret [.cl (.sli .u8 r2)] [])) none) none
theorem gVBe_eq (n : Int) : bodyK Tryd.prog (EVBe) 40 false Tryd.f73 [.cl (.int .u64 n), .cl (.int .i64 8)] [] = gVBe n := by kernel_rfl
end Go.Proofs.YtfkpjbbkdkcdcaaDoorA

namespace Go.Proofs.YtfkpjbbkdkcdcaaDoorA
end Go.Proofs.YtfkpjbbkdkcdcaaDoorA

namespace Go.Proofs.YtfkpjbbkdkcdcaaDoorA
noncomputable def lpVInt_2s (again : (List Int) -> Option Out) (k0 : (List Int) -> Option Out) (v1 : List Int) : Option Out :=
 cond (decide ((1 : Int) < ((v1.length : Nat) : Int))) (
  cond (decide ((0 : Int) < ((v1.length : Nat) : Int))) (
  Option.bind (v1[0]?) fun (e3 : Int) =>
  cond (decide (e3 = 0)) (
   cond (decide ((1 : Int) < ((v1.length : Nat) : Int))) (
   Option.bind (v1[1]?) fun (e4 : Int) =>
   cond (decide (e4 < 128)) (
    cond (decide ((1 : Int) <= ((v1.length : Nat) : Int))) (
    let l5 : List Int := List.drop 1 v1
    again l5) none)
   (
    cond (decide ((0 : Int) < ((v1.length : Nat) : Int))) (
    Option.bind (v1[0]?) fun (e6 : Int) =>
    cond (decide (e6 = 255)) (
     cond (decide ((1 : Int) < ((v1.length : Nat) : Int))) (
     Option.bind (v1[1]?) fun (e7 : Int) =>
     cond (decide ((128 : Int) <= e7)) (
      cond (decide ((1 : Int) <= ((v1.length : Nat) : Int))) (
      let l8 : List Int := List.drop 1 v1
      again l8) none)
     (
      k0 v1)) none)
    (
     k0 v1)) none)) none)
  (
   cond (decide ((0 : Int) < ((v1.length : Nat) : Int))) (
   Option.bind (v1[0]?) fun (e9 : Int) =>
   cond (decide (e9 = 255)) (
    cond (decide ((1 : Int) < ((v1.length : Nat) : Int))) (
    Option.bind (v1[1]?) fun (e10 : Int) =>
    cond (decide ((128 : Int) <= e10)) (
     cond (decide ((1 : Int) <= ((v1.length : Nat) : Int))) (
     let l11 : List Int := List.drop 1 v1
     again l11) none)
    (
     k0 v1)) none)
   (
    k0 v1)) none)) none)
 (
  k0 v1)
noncomputable def lpVInt_2 (k0 : (List Int) -> Option Out) : Nat -> (List Int) -> Option Out := iterF (fun a => lpVInt_2s a k0) (fun _ => none)
noncomputable def LVInt_2 : St -> (Ex -> St -> Option Out) -> Option Out := fun σ k => match σ with
 | ⟨[(q1, .ptr q2 q3 q4), (q5, .cl (.sli .u8 v1))], [(q6, ⟨.var [.cl (.int .i64 q7), .nils, .nils], false⟩)]⟩ => cond (Nat.beq q1 2 && Nat.beq q2 66 && Nat.beq q3 0 && Nat.beq q4 0 && Nat.beq q5 3 && Nat.beq q6 66 && decide (q7 = 0)) (shut (lpVInt_2 (fun y1 => k (.exit 0) ⟨[(2, .ptr 66 0 0), (3, .cl (.sli .u8 y1))], [(66, ⟨.var [.cl (.int .i64 0), .nils, .nils], false⟩)]⟩) FUEL) v1) none
 | _ => none
noncomputable def EVInt : Env := {
 orc := fun g => cond (Nat.beq g 73) (SVBe) (fun _ _ => Tree.fail)
 pre := fun g => cond (Nat.beq g 73) (preVBe) (fun _ _ => true)
 byref := fun _ => []
 keep := fun _ => false
 live := fun r => cond (Nat.beq r 2) ([2, 3]) ([])
 ren := fun _ => []
 glob := glVal
 nt := 38
 lp := fun r => cond (Nat.beq r 2) (some (LVInt_2)) (none)
 xl := fun r => cond (Nat.beq r 0) (some [2]) (cond (Nat.beq r 1) (some [2, 3]) (none))
}
noncomputable def blpVInt_2 : Code := (Cd.fst (Cd.fst (Cd.fst (Cd.snd (Cd.snd (Tryd.f14.body.getD .skip))))))
theorem LVInt_2_ok : LpOk Tryd.prog (EVInt) 40 blpVInt_2 2 LVInt_2 := by
 intro σ k r h
 unfold LVInt_2 at h
 split at h
 ·replace h := qab h
  obtain ⟨hc, h⟩ := h
  simp only [Bool.and_eq_true, beq_prop, decide_eq_true_eq, Bool.not_eq_true'] at hc
  obtain ⟨⟨⟨⟨⟨⟨rfl, rfl⟩, rfl⟩, rfl⟩, rfl⟩, rfl⟩, rfl⟩ := hc
  rw [qac] at h
  exact ⟨FUEL, iter_ok (F := fun n v1 => iterK n (codeK Tryd.prog (EVInt) 40 blpVInt_2) (head (EVInt) 2) ⟨[(2, .ptr 66 0 0), (3, .cl (.sli .u8 v1))], [(66, ⟨.var [.cl (.int .i64 0), .nils, .nils], false⟩)]⟩ k) (Q := fun f => f _ = some r) rfl (fun n => by kernel_rfl) h⟩
 ·cases h
theorem loopsVInt : ∀ c, Tryd.f14.body = some c -> LoopsOk Tryd.prog (EVInt) 40 c := by
 intro c hc
 cases hc
 exact ⟨trivial, ⟨trivial, ⟨⟨⟨⟨trivial, ⟨trivial, trivial, qaa rfl⟩, qaa rfl⟩, trivial, qaa rfl⟩, lp_some rfl (LVInt_2_ok)⟩, ⟨trivial, trivial, qaa rfl⟩, qaa rfl⟩, qaa rfl⟩, qaa rfl⟩
noncomputable def gVInt (n : Int) : Option Out :=
 let x1 : Int := IntKind.u64.wrap n
 cond (u64Ok x1) (
 let r2 : List Int := vBe x1
 shut (lpVInt_2
 (fun (y3 : List Int) =>
  some (.ret [.cl (.agg [.int .i64 2, .sli .u8 y3, .slg 3 []])] []))
 FUEL) r2) none
theorem gVInt_eq (n : Int) : bodyK Tryd.prog (EVInt) 40 false Tryd.f14 [.cl (.int .i64 n)] [] = gVInt n := by kernel_rfl
end Go.Proofs.YtfkpjbbkdkcdcaaDoorA

namespace Go.Proofs.YtfkpjbbkdkcdcaaDoorA
end Go.Proofs.YtfkpjbbkdkcdcaaDoorA

namespace Go.Proofs.YtfkpjbbkdkcdcaaDoorA
noncomputable def EVNull : Env := {
 orc := fun _ => fun _ _ => Tree.fail
 pre := fun _ => fun _ _ => true
 byref := fun _ => []
 keep := fun _ => false
 live := fun _ => []
 ren := fun _ => []
 glob := glVal
 nt := 2
 lp := fun _ => none
 xl := fun r => cond (Nat.beq r 0) (some [0]) (none)
}
theorem loopsVNull : ∀ c, Tryd.f66.body = some c -> LoopsOk Tryd.prog (EVNull) 40 c := by
 intro c hc
 cases hc
 exact ⟨trivial, ⟨trivial, trivial, qaa rfl⟩, qaa rfl⟩
noncomputable def gVNull  : Option Out :=
 some (.ret [.cl (.agg [.int .i64 5, .sli .u8 [], .slg 3 []])] [])
theorem gVNull_eq  : bodyK Tryd.prog (EVNull) 40 false Tryd.f66 [] [] = gVNull  := by kernel_rfl
end Go.Proofs.YtfkpjbbkdkcdcaaDoorA

namespace Go.Proofs.YtfkpjbbkdkcdcaaDoorA
noncomputable def EVSmall : Env := {
 orc := fun g => cond (Nat.beq g 54) (SRSmall) (fun _ _ => Tree.fail)
 pre := fun g => cond (Nat.beq g 54) (preRSmall) (fun _ _ => true)
 byref := fun _ => []
 keep := fun _ => false
 live := fun _ => []
 ren := fun _ => []
 glob := glVal
 nt := 6
 lp := fun _ => none
 xl := fun r => cond (Nat.beq r 0) (some [2]) (none)
}
theorem loopsVSmall : ∀ c, Tryd.f17.body = some c -> LoopsOk Tryd.prog (EVSmall) 40 c := by
 intro c hc
 cases hc
 exact ⟨trivial, ⟨trivial, trivial, qaa rfl⟩, qaa rfl⟩
noncomputable def gVSmall (t : Int) (b : List Int) (k : List CV) : Option Out :=
 cond (isT [.int .i64 t, .sli .u8 b, .slg 3 k] && leftOk 2000) (
 let r1 : Int := ndSmall [.int .i64 t, .sli .u8 b, .slg 3 k] 2000
 some (.ret [.cl (.bool (decide ((0 : Int) <= r1)))] [])) none
theorem gVSmall_eq (t : Int) (b : List Int) (k : List CV) : bodyK Tryd.prog (EVSmall) 40 false Tryd.f17 [.cl (.agg [.int .i64 t, .sli .u8 b, .slg 3 k])] [] = gVSmall t b k := by kernel_rfl
end Go.Proofs.YtfkpjbbkdkcdcaaDoorA

namespace Go.Proofs.YtfkpjbbkdkcdcaaDoorA
noncomputable def EVNumber : Env := {
 orc := fun g => cond (Nat.beq g 120) (SVBNum) (fun _ _ => Tree.fail)
 pre := fun g => cond (Nat.beq g 120) (preVBNum) (fun _ _ => true)
 byref := fun _ => []
 keep := fun _ => false
 live := fun _ => []
 ren := fun _ => []
 glob := glVal
 nt := 19
 lp := fun _ => none
 xl := fun r => cond (Nat.beq r 0) (some [2, 3]) (none)
}
theorem loopsVNumber : ∀ c, Tryd.f75.body = some c -> LoopsOk Tryd.prog (EVNumber) 40 c := by
 intro c hc
 cases hc
 exact ⟨trivial, ⟨⟨trivial, ⟨⟨trivial, trivial, qaa rfl⟩, trivial, qaa rfl⟩, qaa rfl⟩, ⟨trivial, ⟨trivial, trivial, qaa rfl⟩, qaa rfl⟩, qaa rfl⟩, qaa rfl⟩
noncomputable def gVNumber (b : List Int) : Option Out :=
 cond (decide ((8 : Int) < ((b.length : Nat) : Int))) (
  some (.ret [.cl (.int .i64 0), .cl (.int .i64 8)] []))
 (
  let x1 : Int := IntKind.i64.wrap ((8 : Int) * ((b.length : Nat) : Int))
  let x2 : Int := IntKind.i64.wrap ((64 : Int) - x1)
  cond (num8 b) (
  let r3 : Int := bytesNum b
  cond (decide (x2 < 0)) none (
  let x4 : Int := IntKind.u64.wrap (r3 * 2 ^ (min x2.toNat 64))
  let x5 : Int := IntKind.i64.wrap x4
  cond (decide (x2 < 0)) none (
  let x6 : Int := Int.fdiv x5 (2 ^ (min x2.toNat 64))
  some (.ret [.cl (.int .i64 x6), .cl (.int .i64 0)] [])))) none)
theorem gVNumber_eq (b : List Int) : bodyK Tryd.prog (EVNumber) 40 false Tryd.f75 [.cl (.sli .u8 b)] [] = gVNumber b := by kernel_rfl
end Go.Proofs.YtfkpjbbkdkcdcaaDoorA

namespace Go.Proofs.YtfkpjbbkdkcdcaaDoorA
end Go.Proofs.YtfkpjbbkdkcdcaaDoorA

namespace Go.Proofs.YtfkpjbbkdkcdcaaDoorA
end Go.Proofs.YtfkpjbbkdkcdcaaDoorA

namespace Go.Proofs.YtfkpjbbkdkcdcaaDoorA
noncomputable def EVTime1 : Env := {
 orc := fun g => cond (Nat.beq g 85) (SSRead) (fun _ _ => Tree.fail)
 pre := fun g => cond (Nat.beq g 85) (preSRead) (fun _ _ => true)
 byref := fun _ => []
 keep := fun _ => false
 live := fun _ => []
 ren := fun _ => []
 glob := glVal
 nt := 9
 lp := fun _ => none
 xl := fun r => cond (Nat.beq r 0) (some [2, 3]) (none)
}
theorem loopsVTime1 : ∀ c, Tryd.f84.body = some c -> LoopsOk Tryd.prog (EVTime1) 40 c := by
 intro c hc
 cases hc
 exact ⟨trivial, ⟨trivial, trivial, qaa rfl⟩, qaa rfl⟩
noncomputable def gVTime1 (b : List Int) : Option Out :=
 let s1 : ByteArray := strOf b
 let r2 : Int := (stRead s1).1
 let r3 : Int := (stRead s1).2
 some (.ret [.cl (.int .i64 r2), .cl (.int .i64 r3)] [])
theorem gVTime1_eq (b : List Int) : bodyK Tryd.prog (EVTime1) 40 false Tryd.f84 [.cl (.sli .u8 b)] [] = gVTime1 b := by kernel_rfl
end Go.Proofs.YtfkpjbbkdkcdcaaDoorA

namespace Go.Proofs.YtfkpjbbkdkcdcaaDoorA
noncomputable def EVToldI : Env := {
 orc := fun g => cond (Nat.beq g 75) (SVNumber) (cond (Nat.beq g 84) (SVTime1) (cond (Nat.beq g 119) (SDFit_) (fun _ _ => Tree.fail)))
 pre := fun g => cond (Nat.beq g 75) (preVNumber) (cond (Nat.beq g 84) (preVTime1) (cond (Nat.beq g 119) (preDFit_) (fun _ _ => true)))
 byref := fun _ => []
 keep := fun _ => false
 live := fun _ => []
 ren := fun _ => []
 glob := glVal
 nt := 35
 lp := fun _ => none
 xl := fun r => cond (Nat.beq r 0) (some [6, 7]) (none)
}
theorem loopsVToldI : ∀ c, Tryd.f74.body = some c -> LoopsOk Tryd.prog (EVToldI) 40 c := by
 intro c hc
 cases hc
 exact ⟨trivial, ⟨trivial, ⟨⟨trivial, ⟨⟨trivial, trivial, qaa rfl⟩, ⟨trivial, ⟨⟨trivial, trivial, qaa rfl⟩, trivial, qaa rfl⟩, qaa rfl⟩, qaa rfl⟩, qaa rfl⟩, ⟨trivial, trivial, qaa rfl⟩, qaa rfl⟩, qaa rfl⟩, qaa rfl⟩
noncomputable def gVToldI_0 (t : Int) (b : List Int) (k : List CV) : Option Out :=
 cond (!decide (t = 2)) (
  some (.ret [.cl (.int .i64 0), .cl (.int .i64 4)] []))
 (
  cond (decide ((0 : Int) < ((k.length : Nat) : Int))) (
   some (.ret [.cl (.int .i64 0), .cl (.int .i64 5)] []))
  (
   cond (isS ([.int .i64 2, .sli .u8 b, .slg 3 []])) (
   let r1 : Bool := ndFit ([.int .i64 2, .sli .u8 b, .slg 3 []])
   cond (!r1) (
    some (.ret [.cl (.int .i64 0), .cl (.int .i64 5)] []))
   (
    cond (bytesOk b) (
    let r2 : Int := (vNumber b).1
    let r3 : Int := (vNumber b).2
    some (.ret [.cl (.int .i64 r2), .cl (.int .i64 r3)] [])) none)) none))
theorem gVToldI_0_eq (t : Int) (b : List Int) (k : List CV) : bodyK Tryd.prog (EVToldI) 40 false Tryd.f74 [.cl (.agg [.int .i64 t, .sli .u8 b, .slg 3 k]), .cl (.int .i64 2), .cl (.fn (.func 75) [] [])] [] = gVToldI_0 t b k := by kernel_rfl
noncomputable def gVToldI_1 (t : Int) (b : List Int) (k : List CV) : Option Out :=
 cond (!decide (t = 24)) (
  some (.ret [.cl (.int .i64 0), .cl (.int .i64 4)] []))
 (
  cond (decide ((0 : Int) < ((k.length : Nat) : Int))) (
   some (.ret [.cl (.int .i64 0), .cl (.int .i64 5)] []))
  (
   cond (isS ([.int .i64 24, .sli .u8 b, .slg 3 []])) (
   let r1 : Bool := ndFit ([.int .i64 24, .sli .u8 b, .slg 3 []])
   cond (!r1) (
    some (.ret [.cl (.int .i64 0), .cl (.int .i64 5)] []))
   (
    let r2 : Int := (stRead (strOf b)).1
    let r3 : Int := (stRead (strOf b)).2
    some (.ret [.cl (.int .i64 r2), .cl (.int .i64 r3)] []))) none))
theorem gVToldI_1_eq (t : Int) (b : List Int) (k : List CV) : bodyK Tryd.prog (EVToldI) 40 false Tryd.f74 [.cl (.agg [.int .i64 t, .sli .u8 b, .slg 3 k]), .cl (.int .i64 24), .cl (.fn (.func 84) [] [])] [] = gVToldI_1 t b k := by kernel_rfl
end Go.Proofs.YtfkpjbbkdkcdcaaDoorA

namespace Go.Proofs.YtfkpjbbkdkcdcaaDoorA
end Go.Proofs.YtfkpjbbkdkcdcaaDoorA

namespace Go.Proofs.YtfkpjbbkdkcdcaaDoorA
end Go.Proofs.YtfkpjbbkdkcdcaaDoorA

namespace Go.Proofs.YtfkpjbbkdkcdcaaDoorA
noncomputable def EVIntOf : Env := {
 orc := fun g => cond (Nat.beq g 74) (SVToldI) (cond (Nat.beq g 75) (SVNumber) (fun _ _ => Tree.fail))
 pre := fun g => cond (Nat.beq g 74) (preVToldI) (cond (Nat.beq g 75) (preVNumber) (fun _ _ => true))
 byref := fun _ => []
 keep := fun _ => false
 live := fun _ => []
 ren := fun _ => []
 glob := glVal
 nt := 8
 lp := fun _ => none
 xl := fun r => cond (Nat.beq r 0) (some [2, 3]) (none)
}
theorem loopsVIntOf : ∀ c, Tryd.f18.body = some c -> LoopsOk Tryd.prog (EVIntOf) 40 c := by
 intro c hc
 cases hc
 exact ⟨trivial, ⟨trivial, trivial, qaa rfl⟩, qaa rfl⟩
noncomputable def gVIntOf (t : Int) (b : List Int) (k : List CV) : Option Out :=
 cond (isS [.int .i64 t, .sli .u8 b, .slg 3 k]) (
 let r1 : Int := (vIntOf t b k).1
 let r2 : Int := (vIntOf t b k).2
 some (.ret [.cl (.int .i64 r1), .cl (.int .i64 r2)] [])) none
theorem gVIntOf_eq (t : Int) (b : List Int) (k : List CV) : bodyK Tryd.prog (EVIntOf) 40 false Tryd.f18 [.cl (.agg [.int .i64 t, .sli .u8 b, .slg 3 k])] [] = gVIntOf t b k := by kernel_rfl
end Go.Proofs.YtfkpjbbkdkcdcaaDoorA

namespace Go.Proofs.YtfkpjbbkdkcdcaaDoorA
end Go.Proofs.YtfkpjbbkdkcdcaaDoorA

namespace Go.Proofs.YtfkpjbbkdkcdcaaDoorA
end Go.Proofs.YtfkpjbbkdkcdcaaDoorA

namespace Go.Proofs.YtfkpjbbkdkcdcaaDoorA
end Go.Proofs.YtfkpjbbkdkcdcaaDoorA

namespace Go.Proofs.YtfkpjbbkdkcdcaaDoorA
end Go.Proofs.YtfkpjbbkdkcdcaaDoorA

namespace Go.Proofs.YtfkpjbbkdkcdcaaDoorA
end Go.Proofs.YtfkpjbbkdkcdcaaDoorA

namespace Go.Proofs.YtfkpjbbkdkcdcaaDoorA
end Go.Proofs.YtfkpjbbkdkcdcaaDoorA

namespace Go.Proofs.YtfkpjbbkdkcdcaaDoorA
end Go.Proofs.YtfkpjbbkdkcdcaaDoorA

namespace Go.Proofs.YtfkpjbbkdkcdcaaDoorA
end Go.Proofs.YtfkpjbbkdkcdcaaDoorA

namespace Go.Proofs.YtfkpjbbkdkcdcaaDoorA
end Go.Proofs.YtfkpjbbkdkcdcaaDoorA

namespace Go.Proofs.YtfkpjbbkdkcdcaaDoorA
noncomputable def EVCmp : Env := {
 orc := fun g => cond (Nat.beq g 71) (SBCompare) (fun _ _ => Tree.fail)
 pre := fun g => cond (Nat.beq g 71) (preBCompare) (fun _ _ => true)
 byref := fun _ => []
 keep := fun _ => false
 live := fun _ => []
 ren := fun _ => []
 glob := glVal
 nt := 10
 lp := fun _ => none
 xl := fun r => cond (Nat.beq r 0) (some [4]) (none)
}
theorem loopsVCmp : ∀ c, Tryd.f70.body = some c -> LoopsOk Tryd.prog (EVCmp) 40 c := by
 intro c hc
 cases hc
 exact ⟨trivial, ⟨trivial, trivial, qaa rfl⟩, qaa rfl⟩
noncomputable def gVCmp (ta : Int) (ba : List Int) (ka : List CV) (wa : List Int) (tb : Int) (bb : List Int) (kb : List CV) (wb : List Int) : Option Out :=
 cond (bytesOk wa && bytesOk wb) (
 let r1 : Int := listCmp wa wb
 some (.ret [.cl (.int .i64 r1)] [])) none
theorem gVCmp_eq (ta : Int) (ba : List Int) (ka : List CV) (wa : List Int) (tb : Int) (bb : List Int) (kb : List CV) (wb : List Int) : bodyK Tryd.prog (EVCmp) 40 false Tryd.f70 [.cl (.agg [.int .i64 ta, .sli .u8 ba, .slg 3 ka, .sli .u8 wa]), .cl (.agg [.int .i64 tb, .sli .u8 bb, .slg 3 kb, .sli .u8 wb])] [] = gVCmp ta ba ka wa tb bb kb wb := by kernel_rfl
end Go.Proofs.YtfkpjbbkdkcdcaaDoorA

namespace Go.Proofs.YtfkpjbbkdkcdcaaDoorA
noncomputable def lpVInsert_4s (again : Nat -> Int -> Int -> Int -> Int -> (List CV) -> Option Out) (k0 : Nat -> Int -> Int -> Int -> (List CV) -> Option Out) (v1 : Nat) (v2 : Int) (v3 : Int) (v4 : Int) (v5 : Int) (v6 : List CV) : Option Out :=
 cond (decide (v2 < v5)) (
  idxK v5 v1 fun _ =>
  Option.bind (v6[(0 + (Int.toNat v5))]?) fun (e2 : CV) =>
  let e3 : CV := (cell1 e2).headD .nili
  let e4 : CV := (cell1 e2).tail.headD .nili
  let e5 : CV := (cell1 e2).tail.tail.headD .nili
  let e6 : CV := (cell1 e2).tail.tail.tail.headD .nili
  cond (okInt .i64 e3 && (okSli .u8 e4 && (okSlg 3 e5 && (okSli .u8 e6 && true)))) (
  let l10 : List Int := cvSli e6
  let x11 : Int := IntKind.i64.wrap (v5 - 1)
  idxK x11 v1 fun _ =>
  Option.bind (v6[(0 + (Int.toNat x11))]?) fun (e12 : CV) =>
  let e13 : CV := (cell1 e12).headD .nili
  let e14 : CV := (cell1 e12).tail.headD .nili
  let e15 : CV := (cell1 e12).tail.tail.headD .nili
  let e16 : CV := (cell1 e12).tail.tail.tail.headD .nili
  cond (okInt .i64 e13 && (okSli .u8 e14 && (okSlg 3 e15 && (okSli .u8 e16 && true)))) (
  let l20 : List Int := cvSli e16
  cond (bytesOk l10 && bytesOk l20) (
  let r21 : Int := listCmp l10 l20
  cond (decide (r21 < 0)) (
   let x22 : Int := IntKind.i64.wrap (v5 - 1)
   let x23 : Int := IntKind.i64.wrap (v5 - 1)
   idxK x23 v1 fun _ =>
   Option.bind (v6[(0 + (Int.toNat x23))]?) fun (e24 : CV) =>
   let e25 : CV := (cell1 e24).headD .nili
   let e26 : CV := (cell1 e24).tail.headD .nili
   let e27 : CV := (cell1 e24).tail.tail.headD .nili
   let e28 : CV := (cell1 e24).tail.tail.tail.headD .nili
   cond (okInt .i64 e25 && (okSli .u8 e26 && (okSlg 3 e27 && (okSli .u8 e28 && true)))) (
   let i29 : Int := cvInt e25
   let l30 : List Int := cvSli e26
   let l31 : List CV := cvSlg e27
   let l32 : List Int := cvSli e28
   idxK v5 v1 fun _ =>
   Option.bind (v6[(0 + (Int.toNat v5))]?) fun (e33 : CV) =>
   let e34 : CV := (cell1 e33).headD .nili
   let e35 : CV := (cell1 e33).tail.headD .nili
   let e36 : CV := (cell1 e33).tail.tail.headD .nili
   let e37 : CV := (cell1 e33).tail.tail.tail.headD .nili
   cond (okInt .i64 e34 && (okSli .u8 e35 && (okSlg 3 e36 && (okSli .u8 e37 && true)))) (
   let i38 : Int := cvInt e34
   let l39 : List Int := cvSli e35
   let l40 : List CV := cvSlg e36
   let l41 : List Int := cvSli e37
   idxK v5 v1 fun _ =>
   let l42 : List CV := v6.set (0 + (Int.toNat v5)) (.agg [.int .i64 i29, .sli .u8 l30, .slg 3 l31, .sli .u8 l32])
   idxK x22 v1 fun _ =>
   let l43 : List CV := l42.set (0 + (Int.toNat x22)) (.agg [.int .i64 i38, .sli .u8 l39, .slg 3 l40, .sli .u8 l41])
   let x44 : Int := IntKind.i64.wrap (v5 - 1)
   again v1 v2 v3 v4 x44 l43) none) none)
  (
   k0 v1 v2 v3 v4 v6)) none) none) none)
 (
  k0 v1 v2 v3 v4 v6)
noncomputable def lpVInsert_4 (k0 : Nat -> Int -> Int -> Int -> (List CV) -> Option Out) : Nat -> Nat -> Int -> Int -> Int -> Int -> (List CV) -> Option Out := iterF (fun a => lpVInsert_4s a k0) (fun _ _ _ _ _ _ => none)
noncomputable def lpVInsert_1s (again : Nat -> Int -> Int -> Int -> (List CV) -> Option Out) (k0 : (List CV) -> Option Out) (v1 : Nat) (v2 : Int) (v3 : Int) (v4 : Int) (v5 : List CV) : Option Out :=
 cond (decide (v4 < v3)) (
  shut (lpVInsert_4
  (fun (y2 : Nat) (y3 : Int) (y4 : Int) (y5 : Int) (y6 : List CV) =>
   let x7 : Int := IntKind.i64.wrap (y5 + 1)
   again y2 y3 y4 x7 y6)
  FUEL) v1 v2 v3 v4 v4 v5)
 (
  k0 v5)
noncomputable def lpVInsert_1 (k0 : (List CV) -> Option Out) : Nat -> Nat -> Int -> Int -> Int -> (List CV) -> Option Out := iterF (fun a => lpVInsert_1s a k0) (fun _ _ _ _ _ => none)
noncomputable def LVInsert_4 : St -> (Ex -> St -> Option Out) -> Option Out := fun σ k => match σ with
 | ⟨[(q1, .ref q2 q3 v1 true q4), (q5, .cl (.int .i64 v2)), (q6, .cl (.int .i64 v3)), (q7, .cl (.fn (.func q8) [] [])), (q9, .cl (.int .i64 v4)), (q10, .cl (.int .i64 v5))], [(q11, ⟨.gen q12 v6, false⟩)]⟩ => cond (Nat.beq q1 0 && Nat.beq q2 0 && Nat.beq q3 0 && Nat.beq q4 4 && Nat.beq q5 1 && Nat.beq q6 2 && Nat.beq q7 3 && Nat.beq q8 70 && Nat.beq q9 8 && Nat.beq q10 9 && Nat.beq q11 0 && Nat.beq q12 4) (shut (lpVInsert_4 (fun y1 y2 y3 y4 y5 => k (.exit 2) ⟨[(0, .ref 0 0 y1 true 4), (1, .cl (.int .i64 y2)), (2, .cl (.int .i64 y3)), (3, .cl (.fn (.func 70) [] [])), (8, .cl (.int .i64 y4))], [(0, ⟨.gen 4 y5, false⟩)]⟩) FUEL) v1 v2 v3 v4 v5 v6) none
 | _ => none
noncomputable def LVInsert_1 : St -> (Ex -> St -> Option Out) -> Option Out := fun σ k => match σ with
 | ⟨[(q1, .ref q2 q3 v1 true q4), (q5, .cl (.int .i64 v2)), (q6, .cl (.int .i64 v3)), (q7, .cl (.fn (.func q8) [] [])), (q9, .cl (.int .i64 v4))], [(q10, ⟨.gen q11 v5, false⟩)]⟩ => cond (Nat.beq q1 0 && Nat.beq q2 0 && Nat.beq q3 0 && Nat.beq q4 4 && Nat.beq q5 1 && Nat.beq q6 2 && Nat.beq q7 3 && Nat.beq q8 70 && Nat.beq q9 8 && Nat.beq q10 0 && Nat.beq q11 4) (shut (lpVInsert_1 (fun y1 => k (.exit 0) ⟨[], [(0, ⟨.gen 4 y1, false⟩)]⟩) FUEL) v1 v2 v3 v4 v5) none
 | _ => none
noncomputable def EVInsert : Env := {
 orc := fun g => cond (Nat.beq g 70) (SVCmp) (fun _ _ => Tree.fail)
 pre := fun g => cond (Nat.beq g 70) (preVCmp) (fun _ _ => true)
 byref := fun _ => []
 keep := fun _ => false
 live := fun r => cond (Nat.beq r 1) ([0, 1, 2, 3, 8]) (cond (Nat.beq r 4) ([0, 1, 2, 3, 8, 9]) ([]))
 ren := fun _ => []
 glob := glVal
 nt := 53
 lp := fun r => cond (Nat.beq r 1) (some (LVInsert_1)) (cond (Nat.beq r 4) (some (LVInsert_4)) (none))
 xl := fun r => cond (Nat.beq r 0) (some []) (cond (Nat.beq r 1) (some []) (cond (Nat.beq r 3) (some [0, 1, 2, 3, 8]) (none)))
}
noncomputable def blpVInsert_4 : Code := (Cd.fst (Cd.fst (Cd.snd (Cd.fst (Cd.fst (Cd.snd (Cd.fst (Cd.fst (Cd.snd (Tryd.f152.body.getD .skip))))))))))
noncomputable def blpVInsert_1 : Code := (Cd.fst (Cd.fst (Cd.snd (Tryd.f152.body.getD .skip))))
theorem LVInsert_4_ok : LpOk Tryd.prog (EVInsert) 40 blpVInsert_4 4 LVInsert_4 := by
 intro σ k r h
 unfold LVInsert_4 at h
 split at h
 ·replace h := qab h
  obtain ⟨hc, h⟩ := h
  simp only [Bool.and_eq_true, beq_prop, decide_eq_true_eq, Bool.not_eq_true'] at hc
  obtain ⟨⟨⟨⟨⟨⟨⟨⟨⟨⟨⟨rfl, rfl⟩, rfl⟩, rfl⟩, rfl⟩, rfl⟩, rfl⟩, rfl⟩, rfl⟩, rfl⟩, rfl⟩, rfl⟩ := hc
  rw [qac] at h
  exact ⟨FUEL, iter_ok (F := fun n v1 v2 v3 v4 v5 v6 => iterK n (codeK Tryd.prog (EVInsert) 40 blpVInsert_4) (head (EVInsert) 4) ⟨[(0, .ref 0 0 v1 true 4), (1, .cl (.int .i64 v2)), (2, .cl (.int .i64 v3)), (3, .cl (.fn (.func 70) [] [])), (8, .cl (.int .i64 v4)), (9, .cl (.int .i64 v5))], [(0, ⟨.gen 4 v6, false⟩)]⟩ k) (Q := fun f => f _ _ _ _ _ _ = some r) rfl (fun n => by kernel_rfl) h⟩
 ·cases h
theorem LVInsert_1_ok : LpOk Tryd.prog (EVInsert) 40 blpVInsert_1 1 LVInsert_1 := by
 intro σ k r h
 unfold LVInsert_1 at h
 split at h
 ·replace h := qab h
  obtain ⟨hc, h⟩ := h
  simp only [Bool.and_eq_true, beq_prop, decide_eq_true_eq, Bool.not_eq_true'] at hc
  obtain ⟨⟨⟨⟨⟨⟨⟨⟨⟨⟨rfl, rfl⟩, rfl⟩, rfl⟩, rfl⟩, rfl⟩, rfl⟩, rfl⟩, rfl⟩, rfl⟩, rfl⟩ := hc
  rw [qac] at h
  exact ⟨FUEL, iter_ok (F := fun n v1 v2 v3 v4 v5 => iterK n (codeK Tryd.prog (EVInsert) 40 blpVInsert_1) (head (EVInsert) 1) ⟨[(0, .ref 0 0 v1 true 4), (1, .cl (.int .i64 v2)), (2, .cl (.int .i64 v3)), (3, .cl (.fn (.func 70) [] [])), (8, .cl (.int .i64 v4))], [(0, ⟨.gen 4 v5, false⟩)]⟩ k) (Q := fun f => f _ _ _ _ _ = some r) rfl (fun n => by kernel_rfl) h⟩
 ·cases h
theorem loopsVInsert : ∀ c, Tryd.f152.body = some c -> LoopsOk Tryd.prog (EVInsert) 40 c := by
 intro c hc
 cases hc
 exact ⟨trivial, ⟨⟨⟨trivial, ⟨trivial, trivial, qaa rfl⟩, qaa rfl⟩, ⟨⟨trivial, ⟨⟨⟨trivial, ⟨trivial, trivial, qaa rfl⟩, qaa rfl⟩, ⟨trivial, trivial, qaa rfl⟩, qaa rfl⟩, lp_some rfl (LVInsert_4_ok)⟩, qaa rfl⟩, trivial, qaa rfl⟩, qaa rfl⟩, lp_some rfl (LVInsert_1_ok)⟩, qaa rfl⟩
noncomputable def gVInsert (m : Nat) (a : Int) (n : Int) (l : List CV) : Option Out :=
 let x1 : Int := IntKind.i64.wrap (a + 1)
 shut (lpVInsert_1
 (fun (y2 : List CV) =>
  some (.ret [] [some ⟨.gen 4 y2, false⟩]))
 FUEL) m a n x1 l
theorem gVInsert_eq (m : Nat) (a : Int) (n : Int) (l : List CV) : bodyK Tryd.prog (EVInsert) 40 false Tryd.f152 [.ref 0 0 m true 4, .cl (.int .i64 a), .cl (.int .i64 n), .cl (.fn (.func 70) [] [])] [⟨.gen 4 l, false⟩] = gVInsert m a n l := by kernel_rfl
end Go.Proofs.YtfkpjbbkdkcdcaaDoorA

namespace Go.Proofs.YtfkpjbbkdkcdcaaDoorA
noncomputable def lpVStable_2s (again : Nat -> Int -> Int -> Int -> (List CV) -> Option Out) (k0 : Nat -> Int -> Int -> (List CV) -> Option Out) (v1 : Nat) (v2 : Int) (v3 : Int) (v4 : Int) (v5 : List CV) : Option Out :=
 cond (decide (v4 <= v2)) (
  cond (srtOk v1 v5 && decide (v3 = 0 /\ v4 = (v1 : Int))) (
  let r1 : List CV := vSort v5
  let x2 : Int := IntKind.i64.wrap (v4 + 20)
  again v1 v2 v4 x2 r1) none)
 (
  k0 v1 v2 v3 v5)
noncomputable def lpVStable_2 (k0 : Nat -> Int -> Int -> (List CV) -> Option Out) : Nat -> Nat -> Int -> Int -> Int -> (List CV) -> Option Out := iterF (fun a => lpVStable_2s a k0) (fun _ _ _ _ _ => none)
noncomputable def lpVStable_9s (again : Nat -> Int -> Int -> Int -> Int -> (List CV) -> Option Out) (k0 : Nat -> Int -> Int -> Int -> (List CV) -> Option Out) (v1 : Nat) (v2 : Int) (v3 : Int) (v4 : Int) (v5 : Int) (v6 : List CV) : Option Out :=
 cond (decide (v5 <= v2)) (
  cond (false) (
  let x8 : Int := IntKind.i64.wrap ((2 : Int) * v3)
  let x9 : Int := IntKind.i64.wrap (v5 + x8)
  again v1 v2 v3 v5 x9 v6) none)
 (
  k0 v1 v2 v3 v4 v6)
noncomputable def lpVStable_9 (k0 : Nat -> Int -> Int -> Int -> (List CV) -> Option Out) : Nat -> Nat -> Int -> Int -> Int -> Int -> (List CV) -> Option Out := iterF (fun a => lpVStable_9s a k0) (fun _ _ _ _ _ _ => none)
noncomputable def lpVStable_7s (again : Nat -> Int -> Int -> (List CV) -> Option Out) (k0 : (List CV) -> Option Out) (v1 : Nat) (v2 : Int) (v3 : Int) (v4 : List CV) : Option Out :=
 cond (decide (v3 < v2)) (
  let x6 : Int := IntKind.i64.wrap ((2 : Int) * v3)
  shut (lpVStable_9
  (fun (y7 : Nat) (y8 : Int) (y9 : Int) (y10 : Int) (y11 : List CV) =>
   let x12 : Int := IntKind.i64.wrap (y10 + y9)
   cond (decide (x12 < y8)) (
    cond (false) (
    let x13 : Int := IntKind.i64.wrap (y9 * 2)
    again y7 y8 x13 y11) none)
   (
    let x14 : Int := IntKind.i64.wrap (y9 * 2)
    again y7 y8 x14 y11))
  FUEL) v1 v2 v3 0 x6 v4)
 (
  k0 v4)
noncomputable def lpVStable_7 (k0 : (List CV) -> Option Out) : Nat -> Nat -> Int -> Int -> (List CV) -> Option Out := iterF (fun a => lpVStable_7s a k0) (fun _ _ _ _ => none)
noncomputable def LVStable_2 : St -> (Ex -> St -> Option Out) -> Option Out := fun σ k => match σ with
 | ⟨[(q1, .ref q2 q3 v1 true q4), (q5, .cl (.int .i64 v2)), (q6, .cl (.fn (.func q7) [] [])), (q8, .cl (.int .i64 q9)), (q10, .cl (.int .i64 v3)), (q11, .cl (.int .i64 v4))], [(q12, ⟨.gen q13 v5, false⟩)]⟩ => cond (Nat.beq q1 0 && Nat.beq q2 0 && Nat.beq q3 0 && Nat.beq q4 4 && Nat.beq q5 1 && Nat.beq q6 2 && Nat.beq q7 70 && Nat.beq q8 6 && decide (q9 = 20) && Nat.beq q10 7 && Nat.beq q11 8 && Nat.beq q12 0 && Nat.beq q13 4) (shut (lpVStable_2 (fun y1 y2 y3 y4 => k (.exit 0) ⟨[(0, .ref 0 0 y1 true 4), (1, .cl (.int .i64 y2)), (2, .cl (.fn (.func 70) [] [])), (6, .cl (.int .i64 20)), (7, .cl (.int .i64 y3))], [(0, ⟨.gen 4 y4, false⟩)]⟩) FUEL) v1 v2 v3 v4 v5) none
 | _ => none
noncomputable def LVStable_9 : St -> (Ex -> St -> Option Out) -> Option Out := fun σ k => match σ with
 | ⟨[(q1, .ref q2 q3 v1 true q4), (q5, .cl (.int .i64 v2)), (q6, .cl (.fn (.func q7) [] [])), (q8, .cl (.int .i64 v3)), (q9, .cl (.int .i64 v4)), (q10, .cl (.int .i64 v5))], [(q11, ⟨.gen q12 v6, false⟩)]⟩ => cond (Nat.beq q1 0 && Nat.beq q2 0 && Nat.beq q3 0 && Nat.beq q4 4 && Nat.beq q5 1 && Nat.beq q6 2 && Nat.beq q7 70 && Nat.beq q8 6 && Nat.beq q9 7 && Nat.beq q10 8 && Nat.beq q11 0 && Nat.beq q12 4) (shut (lpVStable_9 (fun y1 y2 y3 y4 y5 => k (.exit 4) ⟨[(0, .ref 0 0 y1 true 4), (1, .cl (.int .i64 y2)), (2, .cl (.fn (.func 70) [] [])), (6, .cl (.int .i64 y3)), (7, .cl (.int .i64 y4))], [(0, ⟨.gen 4 y5, false⟩)]⟩) FUEL) v1 v2 v3 v4 v5 v6) none
 | _ => none
noncomputable def LVStable_7 : St -> (Ex -> St -> Option Out) -> Option Out := fun σ k => match σ with
 | ⟨[(q1, .ref q2 q3 v1 true q4), (q5, .cl (.int .i64 v2)), (q6, .cl (.fn (.func q7) [] [])), (q8, .cl (.int .i64 v3))], [(q9, ⟨.gen q10 v4, false⟩)]⟩ => cond (Nat.beq q1 0 && Nat.beq q2 0 && Nat.beq q3 0 && Nat.beq q4 4 && Nat.beq q5 1 && Nat.beq q6 2 && Nat.beq q7 70 && Nat.beq q8 6 && Nat.beq q9 0 && Nat.beq q10 4) (shut (lpVStable_7 (fun y1 => k (.exit 2) ⟨[], [(0, ⟨.gen 4 y1, false⟩)]⟩) FUEL) v1 v2 v3 v4) none
 | _ => none
noncomputable def EVStable : Env := {
 orc := fun g => cond (Nat.beq g 70) (SVCmp) (cond (Nat.beq g 152) (SVInsert) (cond (Nat.beq g 153) (SVMerge) (fun _ _ => Tree.fail)))
 pre := fun g => cond (Nat.beq g 70) (preVCmp) (cond (Nat.beq g 152) (preVInsert) (cond (Nat.beq g 153) (preVMerge) (fun _ _ => true)))
 byref := fun g => cond (Nat.beq g 152) ([0]) (cond (Nat.beq g 153) ([0]) ([]))
 keep := fun _ => false
 live := fun r => cond (Nat.beq r 2) ([0, 1, 2, 6, 7, 8]) (cond (Nat.beq r 7) ([0, 1, 2, 6]) (cond (Nat.beq r 9) ([0, 1, 2, 6, 7, 8]) ([])))
 ren := fun _ => []
 glob := glVal
 nt := 63
 lp := fun r => cond (Nat.beq r 2) (some (LVStable_2)) (cond (Nat.beq r 7) (some (LVStable_7)) (cond (Nat.beq r 9) (some (LVStable_9)) (none)))
 xl := fun r => cond (Nat.beq r 0) (some []) (cond (Nat.beq r 1) (some [0, 1, 2, 6, 7]) (cond (Nat.beq r 3) (some []) (cond (Nat.beq r 5) (some [0, 1, 2, 6, 7]) (none))))
}
noncomputable def blpVStable_2 : Code := (Cd.fst (Cd.fst (Cd.fst (Cd.snd (Cd.snd (Tryd.f115.body.getD .skip))))))
noncomputable def blpVStable_9 : Code := (Cd.fst (Cd.fst (Cd.fst (Cd.snd (Cd.fst (Cd.snd (Cd.fst (Cd.fst (Cd.snd (Cd.snd (Cd.snd (Cd.snd (Tryd.f115.body.getD .skip)))))))))))))
noncomputable def blpVStable_7 : Code := (Cd.fst (Cd.fst (Cd.snd (Cd.snd (Cd.snd (Cd.snd (Tryd.f115.body.getD .skip)))))))
theorem LVStable_2_ok : LpOk Tryd.prog (EVStable) 40 blpVStable_2 2 LVStable_2 := by
 intro σ k r h
 unfold LVStable_2 at h
 split at h
 ·replace h := qab h
  obtain ⟨hc, h⟩ := h
  simp only [Bool.and_eq_true, beq_prop, decide_eq_true_eq, Bool.not_eq_true'] at hc
  obtain ⟨⟨⟨⟨⟨⟨⟨⟨⟨⟨⟨⟨rfl, rfl⟩, rfl⟩, rfl⟩, rfl⟩, rfl⟩, rfl⟩, rfl⟩, rfl⟩, rfl⟩, rfl⟩, rfl⟩, rfl⟩ := hc
  rw [qac] at h
  exact ⟨FUEL, iter_ok (F := fun n v1 v2 v3 v4 v5 => iterK n (codeK Tryd.prog (EVStable) 40 blpVStable_2) (head (EVStable) 2) ⟨[(0, .ref 0 0 v1 true 4), (1, .cl (.int .i64 v2)), (2, .cl (.fn (.func 70) [] [])), (6, .cl (.int .i64 20)), (7, .cl (.int .i64 v3)), (8, .cl (.int .i64 v4))], [(0, ⟨.gen 4 v5, false⟩)]⟩ k) (Q := fun f => f _ _ _ _ _ = some r) rfl (fun n => by kernel_rfl) h⟩
 ·cases h
theorem LVStable_9_ok : LpOk Tryd.prog (EVStable) 40 blpVStable_9 9 LVStable_9 := by
 intro σ k r h
 unfold LVStable_9 at h
 split at h
 ·replace h := qab h
  obtain ⟨hc, h⟩ := h
  simp only [Bool.and_eq_true, beq_prop, decide_eq_true_eq, Bool.not_eq_true'] at hc
  obtain ⟨⟨⟨⟨⟨⟨⟨⟨⟨⟨⟨rfl, rfl⟩, rfl⟩, rfl⟩, rfl⟩, rfl⟩, rfl⟩, rfl⟩, rfl⟩, rfl⟩, rfl⟩, rfl⟩ := hc
  rw [qac] at h
  exact ⟨FUEL, iter_ok (F := fun n v1 v2 v3 v4 v5 v6 => iterK n (codeK Tryd.prog (EVStable) 40 blpVStable_9) (head (EVStable) 9) ⟨[(0, .ref 0 0 v1 true 4), (1, .cl (.int .i64 v2)), (2, .cl (.fn (.func 70) [] [])), (6, .cl (.int .i64 v3)), (7, .cl (.int .i64 v4)), (8, .cl (.int .i64 v5))], [(0, ⟨.gen 4 v6, false⟩)]⟩ k) (Q := fun f => f _ _ _ _ _ _ = some r) rfl (fun n => by kernel_rfl) h⟩
 ·cases h
theorem LVStable_7_ok : LpOk Tryd.prog (EVStable) 40 blpVStable_7 7 LVStable_7 := by
 intro σ k r h
 unfold LVStable_7 at h
 split at h
 ·replace h := qab h
  obtain ⟨hc, h⟩ := h
  simp only [Bool.and_eq_true, beq_prop, decide_eq_true_eq, Bool.not_eq_true'] at hc
  obtain ⟨⟨⟨⟨⟨⟨⟨⟨⟨rfl, rfl⟩, rfl⟩, rfl⟩, rfl⟩, rfl⟩, rfl⟩, rfl⟩, rfl⟩, rfl⟩ := hc
  rw [qac] at h
  exact ⟨FUEL, iter_ok (F := fun n v1 v2 v3 v4 => iterK n (codeK Tryd.prog (EVStable) 40 blpVStable_7) (head (EVStable) 7) ⟨[(0, .ref 0 0 v1 true 4), (1, .cl (.int .i64 v2)), (2, .cl (.fn (.func 70) [] [])), (6, .cl (.int .i64 v3))], [(0, ⟨.gen 4 v4, false⟩)]⟩ k) (Q := fun f => f _ _ _ _ = some r) rfl (fun n => by kernel_rfl) h⟩
 ·cases h
theorem loopsVStable : ∀ c, Tryd.f115.body = some c -> LoopsOk Tryd.prog (EVStable) 40 c := by
 intro c hc
 cases hc
 exact ⟨trivial, ⟨trivial, ⟨⟨⟨⟨trivial, ⟨trivial, trivial, qaa rfl⟩, qaa rfl⟩, ⟨trivial, ⟨trivial, trivial, qaa rfl⟩, qaa rfl⟩, qaa rfl⟩, lp_some rfl (LVStable_2_ok)⟩, ⟨trivial, ⟨⟨⟨trivial, ⟨trivial, trivial, qaa rfl⟩, qaa rfl⟩, ⟨trivial, ⟨⟨⟨⟨trivial, ⟨trivial, trivial, qaa rfl⟩, qaa rfl⟩, ⟨trivial, ⟨trivial, trivial, qaa rfl⟩, qaa rfl⟩, qaa rfl⟩, lp_some rfl (LVStable_9_ok)⟩, ⟨⟨trivial, ⟨trivial, ⟨trivial, trivial, qaa rfl⟩, qaa rfl⟩, qaa rfl⟩, trivial, qaa rfl⟩, qaa rfl⟩, qaa rfl⟩, qaa rfl⟩, lp_some rfl (LVStable_7_ok)⟩, qaa rfl⟩, qaa rfl⟩, qaa rfl⟩, qaa rfl⟩
noncomputable def gVStable (m : Nat) (n : Int) (l : List CV) : Option Out :=
 shut (lpVStable_2
 (fun (y1 : Nat) (y2 : Int) (y3 : Int) (y4 : List CV) =>
  cond (srtOk y1 y4 && decide (y3 = 0 /\ y2 = (y1 : Int))) (
  let r5 : List CV := vSort y4
  shut (lpVStable_7
  (fun (y6 : List CV) =>
   some (.ret [] [some ⟨.gen 4 y6, false⟩]))
  FUEL) y1 y2 20 r5) none)
 FUEL) m n 0 20 l
theorem gVStable_eq (m : Nat) (n : Int) (l : List CV) : bodyK Tryd.prog (EVStable) 40 false Tryd.f115 [.ref 0 0 m true 4, .cl (.int .i64 n), .cl (.fn (.func 70) [] [])] [⟨.gen 4 l, false⟩] = gVStable m n l := by kernel_rfl
end Go.Proofs.YtfkpjbbkdkcdcaaDoorA

namespace Go.Proofs.YtfkpjbbkdkcdcaaDoorA
noncomputable def EVSort : Env := {
 orc := fun g => cond (Nat.beq g 70) (SVCmp) (cond (Nat.beq g 115) (SVStable) (fun _ _ => Tree.fail))
 pre := fun g => cond (Nat.beq g 70) (preVCmp) (cond (Nat.beq g 115) (preVStable) (fun _ _ => true))
 byref := fun g => cond (Nat.beq g 115) ([0]) ([])
 keep := fun _ => false
 live := fun _ => []
 ren := fun _ => []
 glob := glVal
 nt := 9
 lp := fun _ => none
 xl := fun r => cond (Nat.beq r 0) (some []) (none)
}
theorem loopsVSort : ∀ c, Tryd.f69.body = some c -> LoopsOk Tryd.prog (EVSort) 40 c := by
 intro c hc
 cases hc
 exact trivial
noncomputable def gVSort (m : Nat) (l : List CV) : Option Out :=
 cond (srtOk m l && decide (((m : Nat) : Int) = (m : Int))) (
 let r1 : List CV := vSort l
 some (.ret [] [some ⟨.gen 4 r1, false⟩])) none
theorem gVSort_eq (m : Nat) (l : List CV) : bodyK Tryd.prog (EVSort) 40 false Tryd.f69 [.ref 0 0 m true 4, .cl (.fn (.func 70) [] [])] [⟨.gen 4 l, false⟩] = gVSort m l := by kernel_rfl
end Go.Proofs.YtfkpjbbkdkcdcaaDoorA

namespace Go.Proofs.YtfkpjbbkdkcdcaaDoorA
noncomputable def lpVSet_3s (again : Nat -> (List CV) -> Int -> Int -> (List CV) -> Option Out) (k0 : Option Out) (k1 : Nat -> (List CV) -> Option Out) (v1 : Nat) (v2 : List CV) (v3 : Int) (v4 : Int) (v5 : List CV) : Option Out :=
 cond (decide (v4 < v3)) (
  getK v2 v4 fun e1 =>
  let e2 : CV := (cell1 e1).headD .nili
  let e3 : CV := (cell1 e1).tail.headD .nili
  let e4 : CV := (cell1 e1).tail.tail.headD .nili
  cond (okInt .i64 e2 && (okSli .u8 e3 && (okSlg 3 e4 && true))) (
  let i5 : Int := cvInt e2
  let l6 : List Int := cvSli e3
  let l7 : List CV := cvSlg e4
  cond (isS [.int .i64 i5, .sli .u8 l6, .slg 3 l7]) (
  let r8 : List Int := (ndBytes [.int .i64 i5, .sli .u8 l6, .slg 3 l7]).1
  let r9 : Int := (ndBytes [.int .i64 i5, .sli .u8 l6, .slg 3 l7]).2
  cond (!decide (r9 = 0)) (
   k0)
  (
   idxK v4 v1 fun _ =>
   let l10 : List CV := v5.set (0 + (Int.toNat v4)) (.agg [.int .i64 i5, .sli .u8 l6, .slg 3 l7, .sli .u8 r8])
   let x11 : Int := IntKind.i64.wrap (v4 + 1)
   again v1 v2 v3 x11 l10)) none) none)
 (
  k1 v1 v5)
noncomputable def lpVSet_3 (k0 : Option Out) (k1 : Nat -> (List CV) -> Option Out) : Nat -> Nat -> (List CV) -> Int -> Int -> (List CV) -> Option Out := iterF (fun a => lpVSet_3s a k0 k1) (fun _ _ _ _ _ => none)
noncomputable def lpVSet_13s (again : Nat -> Int -> Int -> Nat -> (List CV) -> (List CV) -> Option Out) (k0 : Nat -> (List CV) -> Option Out) (v1 : Nat) (v2 : Int) (v3 : Int) (v4 : Nat) (v5 : List CV) (v6 : List CV) : Option Out :=
 cond (decide (v3 < v2)) (
  idxK v3 v1 fun _ =>
  Option.bind (v5[(0 + (Int.toNat v3))]?) fun (e4 : CV) =>
  let e5 : CV := (cell1 e4).headD .nili
  let e6 : CV := (cell1 e4).tail.headD .nili
  let e7 : CV := (cell1 e4).tail.tail.headD .nili
  let e8 : CV := (cell1 e4).tail.tail.tail.headD .nili
  cond (okInt .i64 e5 && (okSli .u8 e6 && (okSlg 3 e7 && (okSli .u8 e8 && true)))) (
  let i9 : Int := cvInt e5
  let l10 : List Int := cvSli e6
  let l11 : List CV := cvSlg e7
  let l13 : List CV := v6 ++ ([.agg [.int .i64 i9, .sli .u8 l10, .slg 3 l11]])
  rmK l13.length 56 <|
  let x14 : Int := IntKind.i64.wrap (v3 + 1)
  again v1 v2 x14 l13.length v5 l13) none)
 (
  k0 v4 v6)
noncomputable def lpVSet_13 (k0 : Nat -> (List CV) -> Option Out) : Nat -> Nat -> Int -> Int -> Nat -> (List CV) -> (List CV) -> Option Out := iterF (fun a => lpVSet_13s a k0) (fun _ _ _ _ _ _ => none)
noncomputable def LVSet_3 : St -> (Ex -> St -> Option Out) -> Option Out := fun σ k => match σ with
 | ⟨[(q1, .ptr q2 q3 q4), (q5, .ref q6 q7 v1 true q8), (q9, .cl (.slg q10 v2)), (q11, .cl (.int .i64 v3)), (q12, .cl (.int .i64 v4))], [(q13, ⟨.var [.cl (.int .i64 q14), .nils, .nils], false⟩), (q15, ⟨.gen q16 v5, false⟩)]⟩ => cond (Nat.beq q1 2 && Nat.beq q2 66 && Nat.beq q3 0 && Nat.beq q4 0 && Nat.beq q5 4 && Nat.beq q6 78 && Nat.beq q7 0 && Nat.beq q8 4 && Nat.beq q9 15 && Nat.beq q10 3 && Nat.beq q11 16 && Nat.beq q12 17 && Nat.beq q13 66 && decide (q14 = 0) && Nat.beq q15 78 && Nat.beq q16 4) (shut (lpVSet_3 (k .ret ⟨[(2, .ptr 66 0 0), (3, .cl (.int .i64 1))], [(66, ⟨.var [.cl (.int .i64 0), .nils, .nils], false⟩)]⟩) (fun y1 y2 => k (.exit 0) ⟨[(2, .ptr 66 0 0), (4, .ref 78 0 y1 true 4)], [(66, ⟨.var [.cl (.int .i64 0), .nils, .nils], false⟩), (78, ⟨.gen 4 y2, false⟩)]⟩) FUEL) v1 v2 v3 v4 v5) none
 | _ => none
noncomputable def LVSet_13 : St -> (Ex -> St -> Option Out) -> Option Out := fun σ k => match σ with
 | ⟨[(q1, .ptr q2 q3 q4), (q5, .ptr q6 q7 q8), (q9, .ref q10 q11 v1 true q12), (q13, .cl (.int .i64 v2)), (q14, .cl (.int .i64 v3))], [(q15, ⟨.var [.cl (.int .i64 q16), .nils, .nils], false⟩), (q17, ⟨.var [.cl (.int .i64 q18), .nils, .ref q19 q20 v4 true q21], false⟩), (q22, ⟨.gen q23 v5, false⟩), (q24, ⟨.gen q25 v6, false⟩)]⟩ => cond (Nat.beq q1 2 && Nat.beq q2 66 && Nat.beq q3 0 && Nat.beq q4 0 && Nat.beq q5 9 && Nat.beq q6 73 && Nat.beq q7 0 && Nat.beq q8 0 && Nat.beq q9 40 && Nat.beq q10 78 && Nat.beq q11 0 && Nat.beq q12 4 && Nat.beq q13 41 && Nat.beq q14 42 && Nat.beq q15 66 && decide (q16 = 0) && Nat.beq q17 73 && decide (q18 = 49) && Nat.beq q19 115 && Nat.beq q20 0 && Nat.beq q21 3 && Nat.beq q22 78 && Nat.beq q23 4 && Nat.beq q24 115 && Nat.beq q25 3) (shut (lpVSet_13 (fun y1 y2 => k (.exit 2) ⟨[(2, .ptr 66 0 0), (9, .ptr 73 0 0)], [(66, ⟨.var [.cl (.int .i64 0), .nils, .nils], false⟩), (73, ⟨.var [.cl (.int .i64 49), .nils, .ref 115 0 y1 true 3], false⟩), (115, ⟨.gen 3 y2, false⟩)]⟩) FUEL) v1 v2 v3 v4 v5 v6) none
 | _ => none
noncomputable def EVSet : Env := {
 orc := fun g => cond (Nat.beq g 68) (SDBytes) (cond (Nat.beq g 69) (SVSort) (cond (Nat.beq g 70) (SVCmp) (fun _ _ => Tree.fail)))
 pre := fun g => cond (Nat.beq g 68) (preDBytes) (cond (Nat.beq g 69) (preVSort) (cond (Nat.beq g 70) (preVCmp) (fun _ _ => true)))
 byref := fun g => cond (Nat.beq g 69) ([0]) ([])
 keep := fun _ => false
 live := fun r => cond (Nat.beq r 3) ([2, 4, 15, 16, 17]) (cond (Nat.beq r 13) ([2, 9, 40, 41, 42]) ([]))
 ren := fun _ => []
 vir := fun r => cond (Nat.beq r 13) ([(73, 2, 115, .gen 3 [])]) ([])
 glob := glVal
 nt := 55
 lp := fun r => cond (Nat.beq r 3) (some (LVSet_3)) (cond (Nat.beq r 13) (some (LVSet_13)) (none))
 xl := fun r => cond (Nat.beq r 0) (some [2, 3]) (cond (Nat.beq r 1) (some [2, 4]) (cond (Nat.beq r 3) (some [2, 9]) (none)))
}
noncomputable def blpVSet_3 : Code := (Cd.fst (Cd.fst (Cd.snd (Cd.fst (Cd.snd (Cd.snd (Tryd.f12.body.getD .skip)))))))
noncomputable def blpVSet_13 : Code := (Cd.fst (Cd.fst (Cd.snd (Cd.fst (Cd.snd (Cd.snd (Cd.snd (Cd.snd (Cd.snd (Tryd.f12.body.getD .skip))))))))))
theorem LVSet_3_ok : LpOk Tryd.prog (EVSet) 40 blpVSet_3 3 LVSet_3 := by
 intro σ k r h
 unfold LVSet_3 at h
 split at h
 ·replace h := qab h
  obtain ⟨hc, h⟩ := h
  simp only [Bool.and_eq_true, beq_prop, decide_eq_true_eq, Bool.not_eq_true'] at hc
  obtain ⟨⟨⟨⟨⟨⟨⟨⟨⟨⟨⟨⟨⟨⟨⟨rfl, rfl⟩, rfl⟩, rfl⟩, rfl⟩, rfl⟩, rfl⟩, rfl⟩, rfl⟩, rfl⟩, rfl⟩, rfl⟩, rfl⟩, rfl⟩, rfl⟩, rfl⟩ := hc
  rw [qac] at h
  exact ⟨FUEL, iter_ok (F := fun n v1 v2 v3 v4 v5 => iterK n (codeK Tryd.prog (EVSet) 40 blpVSet_3) (head (EVSet) 3) ⟨[(2, .ptr 66 0 0), (4, .ref 78 0 v1 true 4), (15, .cl (.slg 3 v2)), (16, .cl (.int .i64 v3)), (17, .cl (.int .i64 v4))], [(66, ⟨.var [.cl (.int .i64 0), .nils, .nils], false⟩), (78, ⟨.gen 4 v5, false⟩)]⟩ k) (Q := fun f => f _ _ _ _ _ = some r) rfl (fun n => by kernel_rfl) h⟩
 ·cases h
theorem LVSet_13_ok : LpOk Tryd.prog (EVSet) 40 blpVSet_13 13 LVSet_13 := by
 intro σ k r h
 unfold LVSet_13 at h
 split at h
 ·replace h := qab h
  obtain ⟨hc, h⟩ := h
  simp only [Bool.and_eq_true, beq_prop, decide_eq_true_eq, Bool.not_eq_true'] at hc
  obtain ⟨⟨⟨⟨⟨⟨⟨⟨⟨⟨⟨⟨⟨⟨⟨⟨⟨⟨⟨⟨⟨⟨⟨⟨rfl, rfl⟩, rfl⟩, rfl⟩, rfl⟩, rfl⟩, rfl⟩, rfl⟩, rfl⟩, rfl⟩, rfl⟩, rfl⟩, rfl⟩, rfl⟩, rfl⟩, rfl⟩, rfl⟩, rfl⟩, rfl⟩, rfl⟩, rfl⟩, rfl⟩, rfl⟩, rfl⟩, rfl⟩ := hc
  rw [qac] at h
  exact ⟨FUEL, iter_ok (F := fun n v1 v2 v3 v4 v5 v6 => iterK n (codeK Tryd.prog (EVSet) 40 blpVSet_13) (head (EVSet) 13) ⟨[(2, .ptr 66 0 0), (9, .ptr 73 0 0), (40, .ref 78 0 v1 true 4), (41, .cl (.int .i64 v2)), (42, .cl (.int .i64 v3))], [(66, ⟨.var [.cl (.int .i64 0), .nils, .nils], false⟩), (73, ⟨.var [.cl (.int .i64 49), .nils, .ref 115 0 v4 true 3], false⟩), (78, ⟨.gen 4 v5, false⟩), (115, ⟨.gen 3 v6, false⟩)]⟩ k) (Q := fun f => f _ _ _ _ _ _ = some r) rfl (fun n => by kernel_rfl) h⟩
 ·cases h
theorem loopsVSet : ∀ c, Tryd.f12.body = some c -> LoopsOk Tryd.prog (EVSet) 40 c := by
 intro c hc
 cases hc
 exact ⟨trivial, ⟨trivial, ⟨⟨trivial, ⟨⟨trivial, ⟨⟨trivial, trivial, qaa rfl⟩, ⟨⟨trivial, ⟨trivial, ⟨⟨trivial, ⟨⟨trivial, trivial, qaa rfl⟩, trivial, qaa rfl⟩, qaa rfl⟩, trivial, qaa rfl⟩, qaa rfl⟩, qaa rfl⟩, trivial, qaa rfl⟩, qaa rfl⟩, qaa rfl⟩, lp_some rfl (LVSet_3_ok)⟩, qaa rfl⟩, ⟨trivial, ⟨trivial, ⟨⟨trivial, ⟨⟨trivial, ⟨⟨trivial, trivial, qaa rfl⟩, ⟨⟨trivial, trivial, qaa rfl⟩, trivial, qaa rfl⟩, qaa rfl⟩, qaa rfl⟩, lp_some rfl (LVSet_13_ok)⟩, qaa rfl⟩, ⟨trivial, trivial, qaa rfl⟩, qaa rfl⟩, qaa rfl⟩, qaa rfl⟩, qaa rfl⟩, qaa rfl⟩, qaa rfl⟩
noncomputable def gVSet (l : List CV) : Option Out :=
 cond (decide ((0 : Int) <= ((l.length : Nat) : Int))) (
 cond (decide (((l.length : Nat) : Int) <= ((l.length : Nat) : Int))) (
 cond (decide (((l.length : Nat) : Int) * 80 <= LIM)) (
 cond (decide (((l.length : Nat) : Int) <= LIM)) (
 shut (lpVSet_3
 (
  some (.ret [.cl (.agg [.int .i64 0, .sli .u8 [], .slg 3 []]), .cl (.int .i64 1)] []))
 (fun (y1 : Nat) (y2 : List CV) =>
  cond (srtOk y1 y2) (
  let r3 : List CV := vSort y2
  shut (lpVSet_13
  (fun (y4 : Nat) (y5 : List CV) =>
   some (.ret [.cl (.agg [.int .i64 49, .sli .u8 [], .slg 3 y5]), .cl (.int .i64 0)] []))
  FUEL) y1 ((y1 : Nat) : Int) 0 0 r3 []) none)
 FUEL) (Int.toNat ((l.length : Nat) : Int)) l ((l.length : Nat) : Int) 0 (List.replicate (Int.toNat ((l.length : Nat) : Int)) (.agg [.int .i64 0, .sli .u8 [], .slg 3 [], .sli .u8 []]))) none) none) none) none
theorem gVSet_eq (l : List CV) : bodyK Tryd.prog (EVSet) 40 false Tryd.f12 [.cl (.slg 3 l)] [] = gVSet l := by kernel_rfl
end Go.Proofs.YtfkpjbbkdkcdcaaDoorA

namespace Go.Proofs.YtfkpjbbkdkcdcaaDoorA
end Go.Proofs.YtfkpjbbkdkcdcaaDoorA

namespace Go.Proofs.YtfkpjbbkdkcdcaaDoorA
end Go.Proofs.YtfkpjbbkdkcdcaaDoorA

namespace Go.Proofs.YtfkpjbbkdkcdcaaDoorA
end Go.Proofs.YtfkpjbbkdkcdcaaDoorA

namespace Go.Proofs.YtfkpjbbkdkcdcaaDoorA
end Go.Proofs.YtfkpjbbkdkcdcaaDoorA

namespace Go.Proofs.YtfkpjbbkdkcdcaaDoorA
end Go.Proofs.YtfkpjbbkdkcdcaaDoorA

namespace Go.Proofs.YtfkpjbbkdkcdcaaDoorA
end Go.Proofs.YtfkpjbbkdkcdcaaDoorA

namespace Go.Proofs.YtfkpjbbkdkcdcaaDoorA
end Go.Proofs.YtfkpjbbkdkcdcaaDoorA

namespace Go.Proofs.YtfkpjbbkdkcdcaaDoorA
end Go.Proofs.YtfkpjbbkdkcdcaaDoorA

namespace Go.Proofs.YtfkpjbbkdkcdcaaDoorA
end Go.Proofs.YtfkpjbbkdkcdcaaDoorA

namespace Go.Proofs.YtfkpjbbkdkcdcaaDoorA
end Go.Proofs.YtfkpjbbkdkcdcaaDoorA

namespace Go.Proofs.YtfkpjbbkdkcdcaaDoorA
end Go.Proofs.YtfkpjbbkdkcdcaaDoorA

namespace Go.Proofs.YtfkpjbbkdkcdcaaDoorA
end Go.Proofs.YtfkpjbbkdkcdcaaDoorA

namespace Go.Proofs.YtfkpjbbkdkcdcaaDoorA
noncomputable def EVClone : Env := {
 orc := fun _ => fun _ _ => Tree.fail
 pre := fun _ => fun _ _ => true
 byref := fun _ => []
 keep := fun _ => false
 live := fun _ => []
 ren := fun _ => []
 glob := glVal
 nt := 8
 lp := fun _ => none
 xl := fun r => cond (Nat.beq r 0) (some [2]) (none)
}
theorem loopsVClone : ∀ c, Tryd.f72.body = some c -> LoopsOk Tryd.prog (EVClone) 40 c := by
 intro c hc
 cases hc
 exact ⟨trivial, ⟨⟨trivial, ⟨⟨trivial, trivial, qaa rfl⟩, trivial, qaa rfl⟩, qaa rfl⟩, ⟨trivial, trivial, qaa rfl⟩, qaa rfl⟩, qaa rfl⟩
noncomputable def gVClone (l : List CV) : Option Out :=
 cond (Nat.beq l.length 0) (
  bothK (
   some (.ret [.cl (.slg 3 [])] []))
  (
   let l1 : List CV := [] ++ l
   rmK l1.length 56 <|
   some (.ret [.cl (.slg 3 l1)] [])))
 (
  let l2 : List CV := [] ++ l
  rmK l2.length 56 <|
  some (.ret [.cl (.slg 3 l2)] []))
theorem gVClone_eq (l : List CV) : bodyK Tryd.prog (EVClone) 40 false Tryd.f72 [.cl (.slg 3 l)] [] = gVClone l := by kernel_rfl
end Go.Proofs.YtfkpjbbkdkcdcaaDoorA

namespace Go.Proofs.YtfkpjbbkdkcdcaaDoorA
end Go.Proofs.YtfkpjbbkdkcdcaaDoorA

namespace Go.Proofs.YtfkpjbbkdkcdcaaDoorA
noncomputable def EVBox : Env := {
 orc := fun g => cond (Nat.beq g 72) (SVClone) (fun _ _ => Tree.fail)
 pre := fun g => cond (Nat.beq g 72) (preVClone) (fun _ _ => true)
 byref := fun _ => []
 keep := fun _ => false
 live := fun _ => []
 ren := fun _ => []
 glob := glVal
 nt := 18
 lp := fun _ => none
 xl := fun r => cond (Nat.beq r 0) (some [4, 5]) (none)
}
theorem loopsVBox : ∀ c, Tryd.f13.body = some c -> LoopsOk Tryd.prog (EVBox) 40 c := by
 intro c hc
 cases hc
 exact ⟨trivial, ⟨⟨trivial, ⟨⟨trivial, trivial, qaa rfl⟩, trivial, qaa rfl⟩, qaa rfl⟩, ⟨trivial, trivial, qaa rfl⟩, qaa rfl⟩, qaa rfl⟩
noncomputable def gVBox (g : Int) (l : List CV) : Option Out :=
 cond (decide (g < 0)) (
  some (.ret [.cl (.agg [.int .i64 0, .sli .u8 [], .slg 3 []]), .cl (.int .i64 8)] []))
 (
  cond (decide ((30 : Int) < g)) (
   some (.ret [.cl (.agg [.int .i64 0, .sli .u8 [], .slg 3 []]), .cl (.int .i64 8)] []))
  (
   let x1 : Int := IntKind.i64.wrap ((160 : Int) + g)
   cond (lenOkC l) (
   some (.ret [.cl (.agg [.int .i64 x1, .sli .u8 [], .slg 3 l]), .cl (.int .i64 0)] [])) none))
theorem gVBox_eq (g : Int) (l : List CV) : bodyK Tryd.prog (EVBox) 40 false Tryd.f13 [.cl (.int .i64 g), .cl (.slg 3 l)] [] = gVBox g l := by kernel_rfl
end Go.Proofs.YtfkpjbbkdkcdcaaDoorA

namespace Go.Proofs.YtfkpjbbkdkcdcaaDoorA
end Go.Proofs.YtfkpjbbkdkcdcaaDoorA

namespace Go.Proofs.YtfkpjbbkdkcdcaaDoorA
noncomputable def EVRSeq : Env := {
 orc := fun _ => fun _ _ => Tree.fail
 pre := fun _ => fun _ _ => true
 byref := fun _ => []
 keep := fun _ => false
 live := fun _ => []
 ren := fun _ => []
 glob := glVal
 nt := 5
 lp := fun _ => none
 xl := fun r => cond (Nat.beq r 0) (some [2]) (none)
}
theorem loopsVRSeq : ∀ c, Tryd.f15.body = some c -> LoopsOk Tryd.prog (EVRSeq) 40 c := by
 intro c hc
 cases hc
 exact ⟨trivial, ⟨trivial, trivial, qaa rfl⟩, qaa rfl⟩
noncomputable def gVRSeq (l : List CV) : Option Out :=
 some (.ret [.cl (.agg [.int .i64 48, .sli .u8 [], .slg 3 l])] [])
theorem gVRSeq_eq (l : List CV) : bodyK Tryd.prog (EVRSeq) 40 false Tryd.f15 [.cl (.slg 3 l)] [] = gVRSeq l := by kernel_rfl
end Go.Proofs.YtfkpjbbkdkcdcaaDoorA

namespace Go.Proofs.YtfkpjbbkdkcdcaaDoorA
end Go.Proofs.YtfkpjbbkdkcdcaaDoorA

namespace Go.Proofs.YtfkpjbbkdkcdcaaDoorA
end Go.Proofs.YtfkpjbbkdkcdcaaDoorA

namespace Go.Proofs.YtfkpjbbkdkcdcaaDoorA
noncomputable def lpVFew_4s (again : (List CV) -> Int -> Int -> Option Out) (k0 : Option Out) (k1 : Option Out) (v1 : List CV) (v2 : Int) (v3 : Int) : Option Out :=
 cond (decide (v3 < v2)) (
  getK v1 v3 fun e1 =>
  let e2 : CV := (cell1 e1).headD .nili
  let e3 : CV := (cell1 e1).tail.headD .nili
  let e4 : CV := (cell1 e1).tail.tail.headD .nili
  cond (okInt .i64 e2 && (okSli .u8 e3 && (okSlg 3 e4 && true))) (
  let i5 : Int := cvInt e2
  let l6 : List Int := cvSli e3
  let l7 : List CV := cvSlg e4
  cond (isT [.int .i64 i5, .sli .u8 l6, .slg 3 l7]) (
  let r8 : Bool := vSmall [.int .i64 i5, .sli .u8 l6, .slg 3 l7]
  cond (!r8) (
   k0)
  (
   let x9 : Int := IntKind.i64.wrap (v3 + 1)
   again v1 v2 x9)) none) none)
 (
  k1)
noncomputable def lpVFew_4 (k0 : Option Out) (k1 : Option Out) : Nat -> (List CV) -> Int -> Int -> Option Out := iterF (fun a => lpVFew_4s a k0 k1) (fun _ _ _ => none)
noncomputable def LVFew_4 : St -> (Ex -> St -> Option Out) -> Option Out := fun σ k => match σ with
 | ⟨[(q1, .cl (.slg q2 v1)), (q3, .cl (.int .i64 v2)), (q4, .cl (.int .i64 v3))], []⟩ => cond (Nat.beq q1 8 && Nat.beq q2 3 && Nat.beq q3 9 && Nat.beq q4 10) (shut (lpVFew_4 (k .ret ⟨[(2, .cl (.bool false))], []⟩) (k (.exit 0) ⟨[], []⟩) FUEL) v1 v2 v3) none
 | _ => none
noncomputable def EVFew : Env := {
 orc := fun g => cond (Nat.beq g 17) (SVSmall) (fun _ _ => Tree.fail)
 pre := fun g => cond (Nat.beq g 17) (preVSmall) (fun _ _ => true)
 byref := fun _ => []
 keep := fun _ => false
 live := fun r => cond (Nat.beq r 4) ([8, 9, 10]) ([])
 ren := fun _ => []
 glob := glVal
 nt := 18
 lp := fun r => cond (Nat.beq r 4) (some (LVFew_4)) (none)
 xl := fun r => cond (Nat.beq r 0) (some [2]) (cond (Nat.beq r 1) (some []) (none))
}
noncomputable def blpVFew_4 : Code := (Cd.fst (Cd.fst (Cd.snd (Cd.fst (Cd.snd (Cd.snd (Tryd.f9.body.getD .skip)))))))
theorem LVFew_4_ok : LpOk Tryd.prog (EVFew) 40 blpVFew_4 4 LVFew_4 := by
 intro σ k r h
 unfold LVFew_4 at h
 split at h
 ·replace h := qab h
  obtain ⟨hc, h⟩ := h
  simp only [Bool.and_eq_true, beq_prop, decide_eq_true_eq, Bool.not_eq_true'] at hc
  obtain ⟨⟨⟨rfl, rfl⟩, rfl⟩, rfl⟩ := hc
  rw [qac] at h
  exact ⟨FUEL, iter_ok (F := fun n v1 v2 v3 => iterK n (codeK Tryd.prog (EVFew) 40 blpVFew_4) (head (EVFew) 4) ⟨[(8, .cl (.slg 3 v1)), (9, .cl (.int .i64 v2)), (10, .cl (.int .i64 v3))], []⟩ k) (Q := fun f => f _ _ _ = some r) rfl (fun n => by kernel_rfl) h⟩
 ·cases h
theorem loopsVFew : ∀ c, Tryd.f9.body = some c -> LoopsOk Tryd.prog (EVFew) 40 c := by
 intro c hc
 cases hc
 exact ⟨trivial, ⟨⟨trivial, ⟨⟨trivial, trivial, qaa rfl⟩, trivial, qaa rfl⟩, qaa rfl⟩, ⟨⟨trivial, ⟨⟨trivial, ⟨⟨trivial, trivial, qaa rfl⟩, ⟨⟨trivial, ⟨trivial, ⟨⟨trivial, trivial, qaa rfl⟩, trivial, qaa rfl⟩, qaa rfl⟩, qaa rfl⟩, trivial, qaa rfl⟩, qaa rfl⟩, qaa rfl⟩, lp_some rfl (LVFew_4_ok)⟩, qaa rfl⟩, ⟨trivial, trivial, qaa rfl⟩, qaa rfl⟩, qaa rfl⟩, qaa rfl⟩
noncomputable def gVFew (l : List CV) : Option Out :=
 cond (decide ((10 : Int) < ((l.length : Nat) : Int))) (
  some (.ret [.cl (.bool false)] []))
 (
  shut (lpVFew_4
  (
   some (.ret [.cl (.bool false)] []))
  (
   some (.ret [.cl (.bool true)] []))
  FUEL) l ((l.length : Nat) : Int) 0)
theorem gVFew_eq (l : List CV) : bodyK Tryd.prog (EVFew) 40 false Tryd.f9 [.cl (.slg 3 l)] [] = gVFew l := by kernel_rfl
end Go.Proofs.YtfkpjbbkdkcdcaaDoorA

namespace Go.Proofs.YtfkpjbbkdkcdcaaDoorA
noncomputable def EVAwake : Env := {
 orc := fun g => cond (Nat.beq g 12) (SVSet) (cond (Nat.beq g 14) (SVInt) (cond (Nat.beq g 16) (SRSame) (cond (Nat.beq g 18) (SVIntOf) (cond (Nat.beq g 28) (SR1Same) (cond (Nat.beq g 66) (SVNull) (fun _ _ => Tree.fail))))))
 pre := fun g => cond (Nat.beq g 12) (preVSet) (cond (Nat.beq g 14) (preVInt) (cond (Nat.beq g 16) (preRSame) (cond (Nat.beq g 18) (preVIntOf) (cond (Nat.beq g 28) (preR1Same) (cond (Nat.beq g 66) (preVNull) (fun _ _ => true))))))
 byref := fun _ => []
 keep := fun _ => false
 live := fun _ => []
 ren := fun _ => []
 glob := glVal
 nt := 49
 lp := fun _ => none
 xl := fun r => cond (Nat.beq r 0) (some [0]) (none)
}
theorem loopsVAwake : ∀ c, Tryd.f10.body = some c -> LoopsOk Tryd.prog (EVAwake) 40 c := by
 intro c hc
 cases hc
 exact ⟨trivial, ⟨trivial, ⟨trivial, ⟨trivial, trivial, qaa rfl⟩, qaa rfl⟩, qaa rfl⟩, qaa rfl⟩
noncomputable def gVAwake  : Option Out :=
 cond (isS [.int .i64 5, .sli .u8 [], .slg 3 []]) (
 let r2 : Int := (vIntOf 5 [] []).2
 cond (stI64 2) (
 let r3 : List Int := vInt 2
 let r4 : List CV := noKids
 cond (stI64 1) (
 let r5 : List Int := vInt 1
 let r6 : List CV := noKids
 cond (setOk ([.agg [.int .i64 2, .sli .u8 r3, .slg 3 r4], .agg [.int .i64 2, .sli .u8 r5, .slg 3 r6]])) (
 let r9 : List CV := (vSet ([.agg [.int .i64 2, .sli .u8 r3, .slg 3 r4], .agg [.int .i64 2, .sli .u8 r5, .slg 3 r6]])).2.1
 let r10 : Int := (vSet ([.agg [.int .i64 2, .sli .u8 r3, .slg 3 r4], .agg [.int .i64 2, .sli .u8 r5, .slg 3 r6]])).2.2
 cond (stI64 128) (
 let r11 : List Int := vInt 128
 cond (lenOk r11) (
 let r13 : Bool := listSame r11 [0, 128]
 cond (r13) (
  cond (stI64 (-1)) (
  let r14 : List Int := vInt (-1)
  cond (lenOk r14) (
  let r16 : Bool := listSame r14 [255]
  cond (r16) (
   cond (decide (r2 = 4)) (
    cond (decide (r10 = 0)) (
     cond (decide (((r9.length : Nat) : Int) = 2)) (
      cond (decide ((0 : Int) < ((r9.length : Nat) : Int))) (
      Option.bind (r9[0]?) fun (e17 : CV) =>
      let e18 : CV := (cell1 e17).headD .nili
      let e19 : CV := (cell1 e17).tail.headD .nili
      let e20 : CV := (cell1 e17).tail.tail.headD .nili
      cond (okInt .i64 e18 && (okSli .u8 e19 && (okSlg 3 e20 && true))) (
      let i21 : Int := cvInt e18
      let l22 : List Int := cvSli e19
      let l23 : List CV := cvSlg e20
      cond (stI64 1) (
      let r24 : List Int := vInt 1
      let r25 : List CV := noKids
      cond (isN [.int .i64 i21, .sli .u8 l22, .slg 3 l23] && isN [.int .i64 2, .sli .u8 r24, .slg 3 r25]) (
      let r26 : Bool := ndSame [.int .i64 i21, .sli .u8 l22, .slg 3 l23] [.int .i64 2, .sli .u8 r24, .slg 3 r25]
      some (.ret [.cl (.bool r26)] [])) none) none) none) none)
     (
      some (.ret [.cl (.bool false)] [])))
    (
     some (.ret [.cl (.bool false)] [])))
   (
    some (.ret [.cl (.bool false)] [])))
  (
   some (.ret [.cl (.bool false)] []))) none) none)
 (
  some (.ret [.cl (.bool false)] []))) none) none) none) none) none) none
theorem gVAwake_eq  : bodyK Tryd.prog (EVAwake) 40 false Tryd.f10 [] [] = gVAwake  := by kernel_rfl
end Go.Proofs.YtfkpjbbkdkcdcaaDoorA

namespace Go.Proofs.YtfkpjbbkdkcdcaaDoorA
end Go.Proofs.YtfkpjbbkdkcdcaaDoorA

namespace Go.Proofs.YtfkpjbbkdkcdcaaDoorA
end Go.Proofs.YtfkpjbbkdkcdcaaDoorA

namespace Go.Proofs.YtfkpjbbkdkcdcaaDoorA
end Go.Proofs.YtfkpjbbkdkcdcaaDoorA

namespace Go.Proofs.YtfkpjbbkdkcdcaaDoorA
noncomputable def lpVLFit_5s (again : Int -> (List CV) -> Int -> Int -> Bool -> (List CV) -> Int -> Int -> Option Out) (k0 : Int -> (List CV) -> Int -> Int -> Bool -> Option Out) (v1 : Int) (v2 : List CV) (v3 : Int) (v4 : Int) (v5 : Bool) (v6 : List CV) (v7 : Int) (v8 : Int) : Option Out :=
 cond (decide (v8 < v7)) (
  getK v6 v8 fun e3 =>
  let e4 : CV := (cell1 e3).headD .nili
  let e5 : CV := (cell1 e3).tail.headD .nili
  let e6 : CV := (cell1 e3).tail.tail.headD .nili
  cond (okInt .i64 e4 && (okSli .u8 e5 && (okSlg 3 e6 && true))) (
  let i7 : Int := cvInt e4
  let l8 : List Int := cvSli e5
  let l9 : List CV := cvSlg e6
  cond (v5) (
   cond (isS [.int .i64 i7, .sli .u8 l8, .slg 3 l9]) (
   let r10 : Bool := ndFit [.int .i64 i7, .sli .u8 l8, .slg 3 l9]
   let x11 : Int := IntKind.i64.wrap (v8 + 1)
   again v1 v2 v3 v4 r10 v6 v7 x11) none)
  (
   let x12 : Int := IntKind.i64.wrap (v8 + 1)
   again v1 v2 v3 v4 false v6 v7 x12)) none)
 (
  k0 v1 v2 v3 v4 v5)
noncomputable def lpVLFit_5 (k0 : Int -> (List CV) -> Int -> Int -> Bool -> Option Out) : Nat -> Int -> (List CV) -> Int -> Int -> Bool -> (List CV) -> Int -> Int -> Option Out := iterF (fun a => lpVLFit_5s a k0) (fun _ _ _ _ _ _ _ _ => none)
noncomputable def LVLFit_5 : St -> (Ex -> St -> Option Out) -> Option Out := fun σ k => match σ with
 | ⟨[(q1, .cl (.int .i64 v1)), (q2, .cl (.slg q3 v2)), (q4, .cl (.int .u8 v3)), (q5, .cl (.int .u8 v4)), (q6, .cl (.bool v5)), (q7, .cl (.slg q8 v6)), (q9, .cl (.int .i64 v7)), (q10, .cl (.int .i64 v8))], []⟩ => cond (Nat.beq q1 0 && Nat.beq q2 1 && Nat.beq q3 3 && Nat.beq q4 2 && Nat.beq q5 3 && Nat.beq q6 9 && Nat.beq q7 26 && Nat.beq q8 3 && Nat.beq q9 27 && Nat.beq q10 28) (shut (lpVLFit_5 (fun y1 y2 y3 y4 y5 => k (.exit 0) ⟨[(0, .cl (.int .i64 y1)), (1, .cl (.slg 3 y2)), (2, .cl (.int .u8 y3)), (3, .cl (.int .u8 y4)), (9, .cl (.bool y5))], []⟩) FUEL) v1 v2 v3 v4 v5 v6 v7 v8) none
 | _ => none
noncomputable def EVLFit : Env := {
 orc := fun g => cond (Nat.beq g 9) (SVFew) (cond (Nat.beq g 10) (SVAwake) (cond (Nat.beq g 11) (SRFit_) (cond (Nat.beq g 12) (SVSet) (cond (Nat.beq g 13) (SVBox) (cond (Nat.beq g 14) (SVInt) (cond (Nat.beq g 15) (SVRSeq) (cond (Nat.beq g 16) (SRSame) (fun _ _ => Tree.fail))))))))
 pre := fun g => cond (Nat.beq g 9) (preVFew) (cond (Nat.beq g 10) (preVAwake) (cond (Nat.beq g 11) (preRFit_) (cond (Nat.beq g 12) (preVSet) (cond (Nat.beq g 13) (preVBox) (cond (Nat.beq g 14) (preVInt) (cond (Nat.beq g 15) (preVRSeq) (cond (Nat.beq g 16) (preRSame) (fun _ _ => true))))))))
 byref := fun _ => []
 keep := fun _ => false
 live := fun r => cond (Nat.beq r 5) ([0, 1, 2, 3, 9, 26, 27, 28]) ([])
 ren := fun _ => []
 glob := glVal
 nt := 122
 lp := fun r => cond (Nat.beq r 5) (some (LVLFit_5)) (none)
 xl := fun r => cond (Nat.beq r 0) (some [8]) (cond (Nat.beq r 1) (some [0, 1, 2, 3, 9]) (none))
}
noncomputable def blpVLFit_5 : Code := (Cd.fst (Cd.fst (Cd.snd (Cd.fst (Cd.snd (Cd.snd (Cd.snd (Tryd.f3.body.getD .skip))))))))
theorem LVLFit_5_ok : LpOk Tryd.prog (EVLFit) 40 blpVLFit_5 5 LVLFit_5 := by
 intro σ k r h
 unfold LVLFit_5 at h
 split at h
 ·replace h := qab h
  obtain ⟨hc, h⟩ := h
  simp only [Bool.and_eq_true, beq_prop, decide_eq_true_eq, Bool.not_eq_true'] at hc
  obtain ⟨⟨⟨⟨⟨⟨⟨⟨⟨rfl, rfl⟩, rfl⟩, rfl⟩, rfl⟩, rfl⟩, rfl⟩, rfl⟩, rfl⟩, rfl⟩ := hc
  rw [qac] at h
  exact ⟨FUEL, iter_ok (F := fun n v1 v2 v3 v4 v5 v6 v7 v8 => iterK n (codeK Tryd.prog (EVLFit) 40 blpVLFit_5) (head (EVLFit) 5) ⟨[(0, .cl (.int .i64 v1)), (1, .cl (.slg 3 v2)), (2, .cl (.int .u8 v3)), (3, .cl (.int .u8 v4)), (9, .cl (.bool v5)), (26, .cl (.slg 3 v6)), (27, .cl (.int .i64 v7)), (28, .cl (.int .i64 v8))], []⟩ k) (Q := fun f => f _ _ _ _ _ _ _ _ = some r) rfl (fun n => by kernel_rfl) h⟩
 ·cases h
theorem loopsVLFit : ∀ c, Tryd.f3.body = some c -> LoopsOk Tryd.prog (EVLFit) 40 c := by
 intro c hc
 cases hc
 exact ⟨trivial, ⟨⟨trivial, ⟨⟨trivial, trivial, qaa rfl⟩, trivial, qaa rfl⟩, qaa rfl⟩, ⟨trivial, ⟨⟨trivial, ⟨⟨trivial, ⟨⟨trivial, trivial, qaa rfl⟩, ⟨⟨trivial, trivial, qaa rfl⟩, trivial, qaa rfl⟩, qaa rfl⟩, qaa rfl⟩, lp_some rfl (LVLFit_5_ok)⟩, qaa rfl⟩, ⟨trivial, ⟨trivial, ⟨⟨trivial, ⟨⟨trivial, trivial, qaa rfl⟩, trivial, qaa rfl⟩, qaa rfl⟩, ⟨⟨trivial, ⟨⟨trivial, trivial, qaa rfl⟩, trivial, qaa rfl⟩, qaa rfl⟩, ⟨trivial, ⟨⟨trivial, ⟨⟨trivial, trivial, qaa rfl⟩, trivial, qaa rfl⟩, qaa rfl⟩, ⟨⟨trivial, ⟨⟨trivial, ⟨trivial, ⟨trivial, ⟨trivial, ⟨trivial, ⟨⟨trivial, trivial, qaa rfl⟩, trivial, qaa rfl⟩, qaa rfl⟩, qaa rfl⟩, qaa rfl⟩, qaa rfl⟩, qaa rfl⟩, trivial, qaa rfl⟩, qaa rfl⟩, ⟨trivial, trivial, qaa rfl⟩, qaa rfl⟩, qaa rfl⟩, qaa rfl⟩, qaa rfl⟩, qaa rfl⟩, qaa rfl⟩, qaa rfl⟩, qaa rfl⟩, qaa rfl⟩, qaa rfl⟩, qaa rfl⟩
noncomputable def gVLFit (n : Int) (l : List CV) (x : Int) (y : Int) : Option Out :=
 cond (isTs l) (
 let r1 : Bool := vFew l
 cond (!r1) (
  let r2 : Bool := true
  some (.ret [.cl (.bool r2)] []))
 (
  shut (lpVLFit_5
  (fun (y3 : Int) (y4 : List CV) (y5 : Int) (y6 : Int) (y7 : Bool) =>
   cond (setOk y4) (
   let r8 : Int := (vSet y4).1
   let r9 : List Int := noInts
   let r10 : List CV := (vSet y4).2.1
   let r11 : Int := (vSet y4).2.2
   cond (lenOkC y4) (
   let r12 : Int := (vBox 3 y4).1
   let r13 : List Int := noInts
   let r14 : List CV := (vBox 3 y4).2.1
   let r15 : Int := (vBox 3 y4).2.2
   cond (stI64 y3) (
   let r16 : List Int := vInt y3
   let r17 : List CV := noKids
   cond (isS [.int .i64 2, .sli .u8 r16, .slg 3 r17]) (
   let r18 : Bool := ndFit [.int .i64 2, .sli .u8 r16, .slg 3 r17]
   cond (!r18) (
    some (.ret [.cl (.bool false)] []))
   (
    cond (!((decide (r11 = 0)) == y7)) (
     some (.ret [.cl (.bool false)] []))
    (
     cond (!decide (r15 = 0)) (
      some (.ret [.cl (.bool false)] []))
     (
      cond (!y7) (
       let r19 : Bool := true
       some (.ret [.cl (.bool r19)] []))
      (
       cond (lenOkC y4) (
       let r20 : List Int := noInts
       cond (isS [.int .i64 48, .sli .u8 r20, .slg 3 y4]) (
       let r21 : Bool := ndFit [.int .i64 48, .sli .u8 r20, .slg 3 y4]
       cond (isS [.int .i64 r8, .sli .u8 r9, .slg 3 r10]) (
       let r22 : Bool := ndFit [.int .i64 r8, .sli .u8 r9, .slg 3 r10]
       cond (!(r22 == r21)) (
        some (.ret [.cl (.bool false)] []))
       (
        cond (isS [.int .i64 r12, .sli .u8 r13, .slg 3 r14]) (
        let r23 : Bool := ndFit [.int .i64 r12, .sli .u8 r13, .slg 3 r14]
        cond (!(r23 == r21)) (
         some (.ret [.cl (.bool false)] []))
        (
         cond (decide ((0 : Int) < ((y4.length : Nat) : Int))) (
          let l24 : List CV := [] ++ y4
          rmK l24.length 56 <|
          let x25 : Int := IntKind.i64.wrap y5
          cond (decide (((y4.length : Nat) : Int) = 0)) none (
          let x26 : Int := Int.tmod x25 ((y4.length : Nat) : Int)
          let x27 : Int := IntKind.i64.wrap y6
          cond (decide (((y4.length : Nat) : Int) = 0)) none (
          let x28 : Int := Int.tmod x27 ((y4.length : Nat) : Int)
          idxK x28 l24.length fun _ =>
          Option.bind (l24[(0 + (Int.toNat x28))]?) fun (e29 : CV) =>
          let e30 : CV := (cell1 e29).headD .nili
          let e31 : CV := (cell1 e29).tail.headD .nili
          let e32 : CV := (cell1 e29).tail.tail.headD .nili
          cond (okInt .i64 e30 && (okSli .u8 e31 && (okSlg 3 e32 && true))) (
          let i33 : Int := cvInt e30
          let l34 : List Int := cvSli e31
          let l35 : List CV := cvSlg e32
          idxK x26 l24.length fun _ =>
          Option.bind (l24[(0 + (Int.toNat x26))]?) fun (e36 : CV) =>
          let e37 : CV := (cell1 e36).headD .nili
          let e38 : CV := (cell1 e36).tail.headD .nili
          let e39 : CV := (cell1 e36).tail.tail.headD .nili
          cond (okInt .i64 e37 && (okSli .u8 e38 && (okSlg 3 e39 && true))) (
          let i40 : Int := cvInt e37
          let l41 : List Int := cvSli e38
          let l42 : List CV := cvSlg e39
          idxK x26 l24.length fun _ =>
          let l43 : List CV := l24.set (0 + (Int.toNat x26)) (.agg [.int .i64 i33, .sli .u8 l34, .slg 3 l35])
          idxK x28 l24.length fun _ =>
          let l44 : List CV := l43.set (0 + (Int.toNat x28)) (.agg [.int .i64 i40, .sli .u8 l41, .slg 3 l42])
          cond (setOk l44) (
          let r45 : Int := (vSet l44).1
          let r46 : List Int := noInts
          let r47 : List CV := (vSet l44).2.1
          let r48 : Int := (vSet l44).2.2
          cond (!decide (r48 = 0)) (
           some (.ret [.cl (.bool false)] []))
          (
           cond (isN [.int .i64 r45, .sli .u8 r46, .slg 3 r47] && isN [.int .i64 r8, .sli .u8 r9, .slg 3 r10]) (
           let r49 : Bool := ndSame [.int .i64 r45, .sli .u8 r46, .slg 3 r47] [.int .i64 r8, .sli .u8 r9, .slg 3 r10]
           cond (!r49) (
            some (.ret [.cl (.bool false)] []))
           (
            let r50 : Bool := true
            some (.ret [.cl (.bool r50)] []))) none)) none) none) none)))
         (
          let r51 : Bool := true
          some (.ret [.cl (.bool r51)] [])))) none)) none) none) none))))) none) none) none) none)
  FUEL) n l x y true l ((l.length : Nat) : Int) 0)) none
theorem gVLFit_eq (n : Int) (l : List CV) (x : Int) (y : Int) : bodyK Tryd.prog (EVLFit) 40 false Tryd.f3 [.cl (.int .i64 n), .cl (.slg 3 l), .cl (.int .u8 x), .cl (.int .u8 y)] [] = gVLFit n l x y := by kernel_rfl
end Go.Proofs.YtfkpjbbkdkcdcaaDoorA
