/-
 What the reading of apostille/oid.put comes to, printed by a program. Conditions: none.
-/
import Derived.Test.YtfkpjbbkdkcdcaaDoorT1
set_option linter.unusedVariables false
set_option linter.unusedSimpArgs false
set_option maxRecDepth 100000
namespace Go.Proofs.YtfkpjbbkdkcdcaaDoorA
end Go.Proofs.YtfkpjbbkdkcdcaaDoorA

namespace Go.Proofs.YtfkpjbbkdkcdcaaDoorA
end Go.Proofs.YtfkpjbbkdkcdcaaDoorA

namespace Go.Proofs.YtfkpjbbkdkcdcaaDoorA
end Go.Proofs.YtfkpjbbkdkcdcaaDoorA

namespace Go.Proofs.YtfkpjbbkdkcdcaaDoorA
end Go.Proofs.YtfkpjbbkdkcdcaaDoorA

namespace Go.Proofs.YtfkpjbbkdkcdcaaDoorA
noncomputable def lpVBNum_3s (again : Int -> (List Int) -> Int -> Int -> Option Out) (k0 : Int -> Option Out) (v1 : Int) (v2 : List Int) (v3 : Int) (v4 : Int) : Option Out :=
 cond (decide (v4 < v3)) (
  getK v2 v4 fun e1 =>
  let x2 : Int := IntKind.u64.wrap (v1 * 2 ^ 8)
  let x3 : Int := IntKind.u64.wrap e1
  let x4 : Int := IntKind.u64.wrap ((BitVec.ofInt 64 x2 ||| BitVec.ofInt 64 x3).toNat)
  let x5 : Int := IntKind.i64.wrap (v4 + 1)
  again x4 v2 v3 x5)
 (
  k0 v1)
noncomputable def lpVBNum_3 (k0 : Int -> Option Out) : Nat -> Int -> (List Int) -> Int -> Int -> Option Out := iterF (fun a => lpVBNum_3s a k0) (fun _ _ _ _ => none)
noncomputable def LVBNum_3 : St -> (Ex -> St -> Option Out) -> Option Out := fun σ k => match σ with
 | ⟨[(q1, .cl (.int .u64 v1)), (q2, .cl (.sli .u8 v2)), (q3, .cl (.int .i64 v3)), (q4, .cl (.int .i64 v4))], []⟩ => cond (Nat.beq q1 3 && Nat.beq q2 6 && Nat.beq q3 7 && Nat.beq q4 8) (shut (lpVBNum_3 (fun y1 => k (.exit 0) ⟨[(3, .cl (.int .u64 y1))], []⟩) FUEL) v1 v2 v3 v4) none
 | _ => none
noncomputable def EVBNum : Env := {
 orc := fun _ => fun _ _ => Tree.fail
 pre := fun _ => fun _ _ => true
 byref := fun _ => []
 keep := fun _ => false
 live := fun r => cond (Nat.beq r 3) ([3, 6, 7, 8]) ([])
 ren := fun _ => []
 glob := glVal
 nt := 19
 lp := fun r => cond (Nat.beq r 3) (some (LVBNum_3)) (none)
 xl := fun r => cond (Nat.beq r 0) (some [2]) (cond (Nat.beq r 1) (some [3]) (none))
}
noncomputable def blpVBNum_3 : Code := (Cd.fst (Cd.fst (Cd.snd (Cd.fst (Cd.snd (Cd.snd (Tryd.f120.body.getD .skip)))))))
theorem LVBNum_3_ok : LpOk Tryd.prog (EVBNum) 40 blpVBNum_3 3 LVBNum_3 := by
 intro σ k r h
 unfold LVBNum_3 at h
 split at h
 ·replace h := cond_some h
  obtain ⟨hc, h⟩ := h
  simp only [Bool.and_eq_true, beq_prop, decide_eq_true_eq, Bool.not_eq_true'] at hc
  obtain ⟨⟨⟨rfl, rfl⟩, rfl⟩, rfl⟩ := hc
  rw [shut_eq] at h
  exact ⟨FUEL, iter_ok (F := fun n v1 v2 v3 v4 => iterK n (codeK Tryd.prog (EVBNum) 40 blpVBNum_3) (head (EVBNum) 3) ⟨[(3, .cl (.int .u64 v1)), (6, .cl (.sli .u8 v2)), (7, .cl (.int .i64 v3)), (8, .cl (.int .i64 v4))], []⟩ k) (Q := fun f => f _ _ _ _ = some r) rfl (fun n => by kernel_rfl) h⟩
 ·cases h
theorem loopsVBNum : ∀ c, Tryd.f120.body = some c -> LoopsOk Tryd.prog (EVBNum) 40 c := by
 intro c hc
 cases hc
 exact ⟨trivial, ⟨trivial, ⟨⟨trivial, ⟨⟨trivial, ⟨⟨trivial, trivial, jn_none rfl⟩, ⟨⟨trivial, trivial, jn_none rfl⟩, trivial, jn_none rfl⟩, jn_none rfl⟩, jn_none rfl⟩, lp_some rfl (LVBNum_3_ok)⟩, jn_none rfl⟩, ⟨trivial, trivial, jn_none rfl⟩, jn_none rfl⟩, jn_none rfl⟩, jn_none rfl⟩
noncomputable def gVBNum (b : List Int) : Option Out :=
 shut (lpVBNum_3
 (fun (y1 : Int) =>
  some (.ret [.cl (.int .u64 y1)] []))
 FUEL) 0 b ((b.length : Nat) : Int) 0
theorem gVBNum_eq (b : List Int) : bodyK Tryd.prog (EVBNum) 40 false Tryd.f120 [.cl (.sli .u8 b)] [] = gVBNum b := by kernel_rfl
end Go.Proofs.YtfkpjbbkdkcdcaaDoorA

namespace Go.Proofs.YtfkpjbbkdkcdcaaDoorA
noncomputable def EVLe : Env := {
 orc := fun _ => fun _ _ => Tree.fail
 pre := fun _ => fun _ _ => true
 byref := fun _ => []
 keep := fun _ => false
 live := fun r => cond (Nat.beq r 5) ([0, 5, 16, 17]) ([])
 ren := fun _ => []
 glob := glVal
 nt := 30
 lp := fun _ => none
 xl := fun r => cond (Nat.beq r 0) (some [4]) (cond (Nat.beq r 1) (some [5]) (none))
}
theorem loopsVLe : ∀ c, Tryd.f117.body = some c -> LoopsOk Tryd.prog (EVLe) 40 c := by
 intro c hc
 cases hc
 exact ⟨trivial, ⟨⟨trivial, ⟨⟨trivial, trivial, jn_none rfl⟩, trivial, jn_none rfl⟩, jn_none rfl⟩, ⟨trivial, ⟨⟨trivial, ⟨⟨trivial, ⟨⟨trivial, trivial, jn_none rfl⟩, ⟨⟨trivial, trivial, jn_none rfl⟩, trivial, jn_none rfl⟩, jn_none rfl⟩, jn_none rfl⟩, lp_none rfl⟩, jn_none rfl⟩, ⟨trivial, trivial, jn_none rfl⟩, jn_none rfl⟩, jn_none rfl⟩, jn_none rfl⟩, jn_none rfl⟩
noncomputable def gVLe (n : Int) : Option Out :=
 let x1 : Int := Int.fdiv n (2 ^ 0)
 let x2 : Int := IntKind.u8.wrap x1
 let x3 : Int := Int.fdiv n (2 ^ 8)
 let x4 : Int := IntKind.u8.wrap x3
 let x5 : Int := Int.fdiv n (2 ^ 16)
 let x6 : Int := IntKind.u8.wrap x5
 let x7 : Int := Int.fdiv n (2 ^ 24)
 let x8 : Int := IntKind.u8.wrap x7
 let x9 : Int := Int.fdiv n (2 ^ 32)
 let x10 : Int := IntKind.u8.wrap x9
 let x11 : Int := Int.fdiv n (2 ^ 40)
 let x12 : Int := IntKind.u8.wrap x11
 let x13 : Int := Int.fdiv n (2 ^ 48)
 let x14 : Int := IntKind.u8.wrap x13
 let x15 : Int := Int.fdiv n (2 ^ 56)
 let x16 : Int := IntKind.u8.wrap x15
 some (.ret [.ref 0 0 8 true 1] [some ⟨.ints .u8 [x2, x4, x6, x8, x10, x12, x14, x16], false⟩])
theorem gVLe_eq (n : Int) : bodyK Tryd.prog (EVLe) 40 true Tryd.f117 [.cl (.int .u64 n), .cl (.int .i64 8)] [] = gVLe n := by kernel_rfl
end Go.Proofs.YtfkpjbbkdkcdcaaDoorA

namespace Go.Proofs.YtfkpjbbkdkcdcaaDoorA
noncomputable def EVReverse : Env := {
 orc := fun _ => fun _ _ => Tree.fail
 pre := fun _ => fun _ _ => true
 byref := fun _ => []
 keep := fun _ => false
 live := fun r => cond (Nat.beq r 1) ([0, 2, 3]) ([])
 ren := fun _ => []
 glob := glVal
 nt := 28
 lp := fun _ => none
 xl := fun r => cond (Nat.beq r 0) (some []) (cond (Nat.beq r 1) (some []) (none))
}
theorem loopsVReverse : ∀ c, Tryd.f118.body = some c -> LoopsOk Tryd.prog (EVReverse) 40 c := by
 intro c hc
 cases hc
 exact ⟨trivial, ⟨⟨⟨trivial, ⟨trivial, trivial, jn_none rfl⟩, jn_none rfl⟩, ⟨trivial, trivial, jn_none rfl⟩, jn_none rfl⟩, lp_none rfl⟩, jn_none rfl⟩
noncomputable def gVReverse (l : List Int) : Option Out :=
 Option.bind (l[7]?) fun (e1 : Int) =>
 Option.bind (l[0]?) fun (e2 : Int) =>
 let l3 : List Int := l.set 0 e1
 let l4 : List Int := l3.set 7 e2
 Option.bind (l4[6]?) fun (e5 : Int) =>
 Option.bind (l4[1]?) fun (e6 : Int) =>
 let l7 : List Int := l4.set 1 e5
 let l8 : List Int := l7.set 6 e6
 Option.bind (l8[5]?) fun (e9 : Int) =>
 Option.bind (l8[2]?) fun (e10 : Int) =>
 let l11 : List Int := l8.set 2 e9
 let l12 : List Int := l11.set 5 e10
 Option.bind (l12[4]?) fun (e13 : Int) =>
 Option.bind (l12[3]?) fun (e14 : Int) =>
 let l15 : List Int := l12.set 3 e13
 let l16 : List Int := l15.set 4 e14
 some (.ret [] [some ⟨.ints .u8 l16, false⟩])
theorem gVReverse_eq (l : List Int) : bodyK Tryd.prog (EVReverse) 40 false Tryd.f118 [.ref 0 0 8 true 1] [⟨.ints .u8 l, false⟩] = gVReverse l := by kernel_rfl
end Go.Proofs.YtfkpjbbkdkcdcaaDoorA

namespace Go.Proofs.YtfkpjbbkdkcdcaaDoorA
noncomputable def EVBe : Env := {
 orc := fun g => cond (Nat.beq g 117) (SVLe) (cond (Nat.beq g 118) (SVReverse) (fun _ _ => Tree.fail))
 pre := fun g => cond (Nat.beq g 117) (preVLe) (cond (Nat.beq g 118) (preVReverse) (fun _ _ => true))
 byref := fun g => cond (Nat.beq g 118) ([0]) ([])
 keep := fun g => cond (Nat.beq g 117) (true) (false)
 live := fun _ => []
 ren := fun _ => []
 glob := glVal
 nt := 12
 lp := fun _ => none
 xl := fun r => cond (Nat.beq r 0) (some [4]) (none)
}
theorem loopsVBe : ∀ c, Tryd.f73.body = some c -> LoopsOk Tryd.prog (EVBe) 40 c := by
 intro c hc
 cases hc
 exact ⟨trivial, ⟨trivial, ⟨trivial, ⟨trivial, trivial, jn_none rfl⟩, jn_none rfl⟩, jn_none rfl⟩, jn_none rfl⟩
noncomputable def gVBe (n : Int) : Option Out :=
 cond (u64Ok n) (
 let r1 : List Int := vLe n
 cond (revOk r1) (
 let r2 : List Int := vRev r1
 some (.ret [.cl (.sli .u8 r2)] [])) none) none
theorem gVBe_eq (n : Int) : bodyK Tryd.prog (EVBe) 40 false Tryd.f73 [.cl (.int .u64 n), .cl (.int .i64 8)] [] = gVBe n := by kernel_rfl
end Go.Proofs.YtfkpjbbkdkcdcaaDoorA

namespace Go.Proofs.YtfkpjbbkdkcdcaaDoorA
end Go.Proofs.YtfkpjbbkdkcdcaaDoorA

namespace Go.Proofs.YtfkpjbbkdkcdcaaDoorA
noncomputable def lpVInt_2s (again : (List Int) -> Option Out) (k0 : (List Int) -> Option Out) (v1 : List Int) : Option Out :=
 cond (decide ((1 : Int) < ((v1.length : Nat) : Int))) (
  cond (decide ((0 : Int) < ((v1.length : Nat) : Int))) (
  Option.bind (v1[0]?) fun (e3 : Int) =>
  cond (decide (e3 = 0)) (
   cond (decide ((1 : Int) < ((v1.length : Nat) : Int))) (
   Option.bind (v1[1]?) fun (e4 : Int) =>
   cond (decide (e4 < 128)) (
    cond (decide ((1 : Int) <= ((v1.length : Nat) : Int))) (
    let l5 : List Int := List.drop 1 v1
    again l5) none)
   (
    cond (decide ((0 : Int) < ((v1.length : Nat) : Int))) (
    Option.bind (v1[0]?) fun (e6 : Int) =>
    cond (decide (e6 = 255)) (
     cond (decide ((1 : Int) < ((v1.length : Nat) : Int))) (
     Option.bind (v1[1]?) fun (e7 : Int) =>
     cond (decide ((128 : Int) <= e7)) (
      cond (decide ((1 : Int) <= ((v1.length : Nat) : Int))) (
      let l8 : List Int := List.drop 1 v1
      again l8) none)
     (
      k0 v1)) none)
    (
     k0 v1)) none)) none)
  (
   cond (decide ((0 : Int) < ((v1.length : Nat) : Int))) (
   Option.bind (v1[0]?) fun (e9 : Int) =>
   cond (decide (e9 = 255)) (
    cond (decide ((1 : Int) < ((v1.length : Nat) : Int))) (
    Option.bind (v1[1]?) fun (e10 : Int) =>
    cond (decide ((128 : Int) <= e10)) (
     cond (decide ((1 : Int) <= ((v1.length : Nat) : Int))) (
     let l11 : List Int := List.drop 1 v1
     again l11) none)
    (
     k0 v1)) none)
   (
    k0 v1)) none)) none)
 (
  k0 v1)
noncomputable def lpVInt_2 (k0 : (List Int) -> Option Out) : Nat -> (List Int) -> Option Out := iterF (fun a => lpVInt_2s a k0) (fun _ => none)
noncomputable def LVInt_2 : St -> (Ex -> St -> Option Out) -> Option Out := fun σ k => match σ with
 | ⟨[(q1, .ptr q2 q3 q4), (q5, .cl (.sli .u8 v1))], [(q6, ⟨.var [.cl (.int .i64 q7), .nils, .nils], false⟩)]⟩ => cond (Nat.beq q1 2 && Nat.beq q2 66 && Nat.beq q3 0 && Nat.beq q4 0 && Nat.beq q5 3 && Nat.beq q6 66 && decide (q7 = 0)) (shut (lpVInt_2 (fun y1 => k (.exit 0) ⟨[(2, .ptr 66 0 0), (3, .cl (.sli .u8 y1))], [(66, ⟨.var [.cl (.int .i64 0), .nils, .nils], false⟩)]⟩) FUEL) v1) none
 | _ => none
noncomputable def EVInt : Env := {
 orc := fun g => cond (Nat.beq g 73) (SVBe) (fun _ _ => Tree.fail)
 pre := fun g => cond (Nat.beq g 73) (preVBe) (fun _ _ => true)
 byref := fun _ => []
 keep := fun _ => false
 live := fun r => cond (Nat.beq r 2) ([2, 3]) ([])
 ren := fun _ => []
 glob := glVal
 nt := 38
 lp := fun r => cond (Nat.beq r 2) (some (LVInt_2)) (none)
 xl := fun r => cond (Nat.beq r 0) (some [2]) (cond (Nat.beq r 1) (some [2, 3]) (none))
}
noncomputable def blpVInt_2 : Code := (Cd.fst (Cd.fst (Cd.fst (Cd.snd (Cd.snd (Tryd.f14.body.getD .skip))))))
theorem LVInt_2_ok : LpOk Tryd.prog (EVInt) 40 blpVInt_2 2 LVInt_2 := by
 intro σ k r h
 unfold LVInt_2 at h
 split at h
 ·replace h := cond_some h
  obtain ⟨hc, h⟩ := h
  simp only [Bool.and_eq_true, beq_prop, decide_eq_true_eq, Bool.not_eq_true'] at hc
  obtain ⟨⟨⟨⟨⟨⟨rfl, rfl⟩, rfl⟩, rfl⟩, rfl⟩, rfl⟩, rfl⟩ := hc
  rw [shut_eq] at h
  exact ⟨FUEL, iter_ok (F := fun n v1 => iterK n (codeK Tryd.prog (EVInt) 40 blpVInt_2) (head (EVInt) 2) ⟨[(2, .ptr 66 0 0), (3, .cl (.sli .u8 v1))], [(66, ⟨.var [.cl (.int .i64 0), .nils, .nils], false⟩)]⟩ k) (Q := fun f => f _ = some r) rfl (fun n => by kernel_rfl) h⟩
 ·cases h
theorem loopsVInt : ∀ c, Tryd.f14.body = some c -> LoopsOk Tryd.prog (EVInt) 40 c := by
 intro c hc
 cases hc
 exact ⟨trivial, ⟨trivial, ⟨⟨⟨⟨trivial, ⟨trivial, trivial, jn_none rfl⟩, jn_none rfl⟩, trivial, jn_none rfl⟩, lp_some rfl (LVInt_2_ok)⟩, ⟨trivial, trivial, jn_none rfl⟩, jn_none rfl⟩, jn_none rfl⟩, jn_none rfl⟩
noncomputable def gVInt (n : Int) : Option Out :=
 let x1 : Int := IntKind.u64.wrap n
 cond (u64Ok x1) (
 let r2 : List Int := vBe x1
 shut (lpVInt_2
 (fun (y3 : List Int) =>
  some (.ret [.cl (.agg [.int .i64 2, .sli .u8 y3, .slg 3 []])] []))
 FUEL) r2) none
theorem gVInt_eq (n : Int) : bodyK Tryd.prog (EVInt) 40 false Tryd.f14 [.cl (.int .i64 n)] [] = gVInt n := by kernel_rfl
end Go.Proofs.YtfkpjbbkdkcdcaaDoorA

namespace Go.Proofs.YtfkpjbbkdkcdcaaDoorA
end Go.Proofs.YtfkpjbbkdkcdcaaDoorA

namespace Go.Proofs.YtfkpjbbkdkcdcaaDoorA
noncomputable def EVNull : Env := {
 orc := fun _ => fun _ _ => Tree.fail
 pre := fun _ => fun _ _ => true
 byref := fun _ => []
 keep := fun _ => false
 live := fun _ => []
 ren := fun _ => []
 glob := glVal
 nt := 2
 lp := fun _ => none
 xl := fun r => cond (Nat.beq r 0) (some [0]) (none)
}
theorem loopsVNull : ∀ c, Tryd.f66.body = some c -> LoopsOk Tryd.prog (EVNull) 40 c := by
 intro c hc
 cases hc
 exact ⟨trivial, ⟨trivial, trivial, jn_none rfl⟩, jn_none rfl⟩
noncomputable def gVNull  : Option Out :=
 some (.ret [.cl (.agg [.int .i64 5, .sli .u8 [], .slg 3 []])] [])
theorem gVNull_eq  : bodyK Tryd.prog (EVNull) 40 false Tryd.f66 [] [] = gVNull  := by kernel_rfl
end Go.Proofs.YtfkpjbbkdkcdcaaDoorA

namespace Go.Proofs.YtfkpjbbkdkcdcaaDoorA
noncomputable def EVSmall : Env := {
 orc := fun g => cond (Nat.beq g 54) (SRSmall) (fun _ _ => Tree.fail)
 pre := fun g => cond (Nat.beq g 54) (preRSmall) (fun _ _ => true)
 byref := fun _ => []
 keep := fun _ => false
 live := fun _ => []
 ren := fun _ => []
 glob := glVal
 nt := 6
 lp := fun _ => none
 xl := fun r => cond (Nat.beq r 0) (some [2]) (none)
}
theorem loopsVSmall : ∀ c, Tryd.f17.body = some c -> LoopsOk Tryd.prog (EVSmall) 40 c := by
 intro c hc
 cases hc
 exact ⟨trivial, ⟨trivial, trivial, jn_none rfl⟩, jn_none rfl⟩
noncomputable def gVSmall (t : Int) (b : List Int) (k : List CV) : Option Out :=
 cond (isT [.int .i64 t, .sli .u8 b, .slg 3 k] && leftOk 2000) (
 let r1 : Int := ndSmall [.int .i64 t, .sli .u8 b, .slg 3 k] 2000
 some (.ret [.cl (.bool (decide ((0 : Int) <= r1)))] [])) none
theorem gVSmall_eq (t : Int) (b : List Int) (k : List CV) : bodyK Tryd.prog (EVSmall) 40 false Tryd.f17 [.cl (.agg [.int .i64 t, .sli .u8 b, .slg 3 k])] [] = gVSmall t b k := by kernel_rfl
end Go.Proofs.YtfkpjbbkdkcdcaaDoorA

namespace Go.Proofs.YtfkpjbbkdkcdcaaDoorA
noncomputable def EVNumber : Env := {
 orc := fun g => cond (Nat.beq g 120) (SVBNum) (fun _ _ => Tree.fail)
 pre := fun g => cond (Nat.beq g 120) (preVBNum) (fun _ _ => true)
 byref := fun _ => []
 keep := fun _ => false
 live := fun _ => []
 ren := fun _ => []
 glob := glVal
 nt := 19
 lp := fun _ => none
 xl := fun r => cond (Nat.beq r 0) (some [2, 3]) (none)
}
theorem loopsVNumber : ∀ c, Tryd.f75.body = some c -> LoopsOk Tryd.prog (EVNumber) 40 c := by
 intro c hc
 cases hc
 exact ⟨trivial, ⟨⟨trivial, ⟨⟨trivial, trivial, jn_none rfl⟩, trivial, jn_none rfl⟩, jn_none rfl⟩, ⟨trivial, ⟨trivial, trivial, jn_none rfl⟩, jn_none rfl⟩, jn_none rfl⟩, jn_none rfl⟩
noncomputable def gVNumber (b : List Int) : Option Out :=
 cond (decide ((8 : Int) < ((b.length : Nat) : Int))) (
  some (.ret [.cl (.int .i64 0), .cl (.int .i64 8)] []))
 (
  let x1 : Int := IntKind.i64.wrap ((8 : Int) * ((b.length : Nat) : Int))
  let x2 : Int := IntKind.i64.wrap ((64 : Int) - x1)
  cond (num8 b) (
  let r3 : Int := bytesNum b
  cond (decide (x2 < 0)) none (
  let x4 : Int := IntKind.u64.wrap (r3 * 2 ^ (min x2.toNat 64))
  let x5 : Int := IntKind.i64.wrap x4
  cond (decide (x2 < 0)) none (
  let x6 : Int := Int.fdiv x5 (2 ^ (min x2.toNat 64))
  some (.ret [.cl (.int .i64 x6), .cl (.int .i64 0)] [])))) none)
theorem gVNumber_eq (b : List Int) : bodyK Tryd.prog (EVNumber) 40 false Tryd.f75 [.cl (.sli .u8 b)] [] = gVNumber b := by kernel_rfl
end Go.Proofs.YtfkpjbbkdkcdcaaDoorA

namespace Go.Proofs.YtfkpjbbkdkcdcaaDoorA
noncomputable def EVPlain : Env := {
 orc := fun g => cond (Nat.beq g 111) (SRFits) (fun _ _ => Tree.fail)
 pre := fun g => cond (Nat.beq g 111) (preRFits) (fun _ _ => true)
 byref := fun _ => []
 keep := fun _ => false
 live := fun _ => []
 ren := fun _ => []
 glob := glVal
 nt := 23
 lp := fun _ => none
 xl := fun r => cond (Nat.beq r 0) (some [4, 5]) (none)
}
theorem loopsVPlain : ∀ c, Tryd.f76.body = some c -> LoopsOk Tryd.prog (EVPlain) 40 c := by
 intro c hc
 cases hc
 exact ⟨trivial, ⟨⟨trivial, ⟨⟨trivial, trivial, jn_none rfl⟩, trivial, jn_none rfl⟩, jn_none rfl⟩, ⟨⟨trivial, ⟨⟨trivial, trivial, jn_none rfl⟩, trivial, jn_none rfl⟩, jn_none rfl⟩, ⟨trivial, trivial, jn_none rfl⟩, jn_none rfl⟩, jn_none rfl⟩, jn_none rfl⟩
noncomputable def gVPlain (t : Int) (b : List Int) (k : List CV) (g : Int) : Option Out :=
 cond (!decide (t = g)) (
  some (.ret [.cl (.sli .u8 []), .cl (.int .i64 4)] []))
 (
  cond (decide ((0 : Int) < ((k.length : Nat) : Int))) (
   some (.ret [.cl (.sli .u8 []), .cl (.int .i64 5)] []))
  (
   cond (bytesOk b) (
   let r1 : Bool := derFits g b
   cond (!r1) (
    some (.ret [.cl (.sli .u8 []), .cl (.int .i64 5)] []))
   (
    some (.ret [.cl (.sli .u8 b), .cl (.int .i64 0)] []))) none))
theorem gVPlain_eq (t : Int) (b : List Int) (k : List CV) (g : Int) : bodyK Tryd.prog (EVPlain) 40 false Tryd.f76 [.cl (.agg [.int .i64 t, .sli .u8 b, .slg 3 k]), .cl (.int .i64 g)] [] = gVPlain t b k g := by kernel_rfl
end Go.Proofs.YtfkpjbbkdkcdcaaDoorA

namespace Go.Proofs.YtfkpjbbkdkcdcaaDoorA
noncomputable def EVUtf1 : Env := {
 orc := fun _ => fun _ _ => Tree.fail
 pre := fun _ => fun _ _ => true
 byref := fun _ => []
 keep := fun _ => false
 live := fun _ => []
 ren := fun _ => []
 glob := glVal
 nt := 6
 lp := fun _ => none
 xl := fun r => cond (Nat.beq r 0) (some [2, 3]) (none)
}
theorem loopsVUtf1 : ∀ c, Tryd.f80.body = some c -> LoopsOk Tryd.prog (EVUtf1) 40 c := by
 intro c hc
 cases hc
 exact ⟨trivial, ⟨trivial, trivial, jn_none rfl⟩, jn_none rfl⟩
noncomputable def gVUtf1 (b : List Int) : Option Out :=
 let s1 : ByteArray := strOf b
 some (.ret [.cl (.str s1), .cl (.int .i64 0)] [])
theorem gVUtf1_eq (b : List Int) : bodyK Tryd.prog (EVUtf1) 40 false Tryd.f80 [.cl (.sli .u8 b)] [] = gVUtf1 b := by kernel_rfl
end Go.Proofs.YtfkpjbbkdkcdcaaDoorA

namespace Go.Proofs.YtfkpjbbkdkcdcaaDoorA
noncomputable def EVTime1 : Env := {
 orc := fun g => cond (Nat.beq g 85) (SSRead) (fun _ _ => Tree.fail)
 pre := fun g => cond (Nat.beq g 85) (preSRead) (fun _ _ => true)
 byref := fun _ => []
 keep := fun _ => false
 live := fun _ => []
 ren := fun _ => []
 glob := glVal
 nt := 9
 lp := fun _ => none
 xl := fun r => cond (Nat.beq r 0) (some [2, 3]) (none)
}
theorem loopsVTime1 : ∀ c, Tryd.f84.body = some c -> LoopsOk Tryd.prog (EVTime1) 40 c := by
 intro c hc
 cases hc
 exact ⟨trivial, ⟨trivial, trivial, jn_none rfl⟩, jn_none rfl⟩
noncomputable def gVTime1 (b : List Int) : Option Out :=
 let s1 : ByteArray := strOf b
 let r2 : Int := (stRead s1).1
 let r3 : Int := (stRead s1).2
 some (.ret [.cl (.int .i64 r2), .cl (.int .i64 r3)] [])
theorem gVTime1_eq (b : List Int) : bodyK Tryd.prog (EVTime1) 40 false Tryd.f84 [.cl (.sli .u8 b)] [] = gVTime1 b := by kernel_rfl
end Go.Proofs.YtfkpjbbkdkcdcaaDoorA

namespace Go.Proofs.YtfkpjbbkdkcdcaaDoorA
noncomputable def EVToldI : Env := {
 orc := fun g => cond (Nat.beq g 75) (SVNumber) (cond (Nat.beq g 84) (SVTime1) (cond (Nat.beq g 119) (SDFit_) (fun _ _ => Tree.fail)))
 pre := fun g => cond (Nat.beq g 75) (preVNumber) (cond (Nat.beq g 84) (preVTime1) (cond (Nat.beq g 119) (preDFit_) (fun _ _ => true)))
 byref := fun _ => []
 keep := fun _ => false
 live := fun _ => []
 ren := fun _ => []
 glob := glVal
 nt := 35
 lp := fun _ => none
 xl := fun r => cond (Nat.beq r 0) (some [6, 7]) (none)
}
theorem loopsVToldI : ∀ c, Tryd.f74.body = some c -> LoopsOk Tryd.prog (EVToldI) 40 c := by
 intro c hc
 cases hc
 exact ⟨trivial, ⟨trivial, ⟨⟨trivial, ⟨⟨trivial, trivial, jn_none rfl⟩, ⟨trivial, ⟨⟨trivial, trivial, jn_none rfl⟩, trivial, jn_none rfl⟩, jn_none rfl⟩, jn_none rfl⟩, jn_none rfl⟩, ⟨trivial, trivial, jn_none rfl⟩, jn_none rfl⟩, jn_none rfl⟩, jn_none rfl⟩
noncomputable def gVToldI_0 (t : Int) (b : List Int) (k : List CV) : Option Out :=
 cond (!decide (t = 2)) (
  some (.ret [.cl (.int .i64 0), .cl (.int .i64 4)] []))
 (
  cond (decide ((0 : Int) < ((k.length : Nat) : Int))) (
   some (.ret [.cl (.int .i64 0), .cl (.int .i64 5)] []))
  (
   cond (isS ([.int .i64 2, .sli .u8 b, .slg 3 []])) (
   let r1 : Bool := ndFit ([.int .i64 2, .sli .u8 b, .slg 3 []])
   cond (!r1) (
    some (.ret [.cl (.int .i64 0), .cl (.int .i64 5)] []))
   (
    cond (bytesOk b) (
    let r2 : Int := (vNumber b).1
    let r3 : Int := (vNumber b).2
    some (.ret [.cl (.int .i64 r2), .cl (.int .i64 r3)] [])) none)) none))
theorem gVToldI_0_eq (t : Int) (b : List Int) (k : List CV) : bodyK Tryd.prog (EVToldI) 40 false Tryd.f74 [.cl (.agg [.int .i64 t, .sli .u8 b, .slg 3 k]), .cl (.int .i64 2), .cl (.fn (.func 75) [] [])] [] = gVToldI_0 t b k := by kernel_rfl
noncomputable def gVToldI_1 (t : Int) (b : List Int) (k : List CV) : Option Out :=
 cond (!decide (t = 24)) (
  some (.ret [.cl (.int .i64 0), .cl (.int .i64 4)] []))
 (
  cond (decide ((0 : Int) < ((k.length : Nat) : Int))) (
   some (.ret [.cl (.int .i64 0), .cl (.int .i64 5)] []))
  (
   cond (isS ([.int .i64 24, .sli .u8 b, .slg 3 []])) (
   let r1 : Bool := ndFit ([.int .i64 24, .sli .u8 b, .slg 3 []])
   cond (!r1) (
    some (.ret [.cl (.int .i64 0), .cl (.int .i64 5)] []))
   (
    let r2 : Int := (stRead (strOf b)).1
    let r3 : Int := (stRead (strOf b)).2
    some (.ret [.cl (.int .i64 r2), .cl (.int .i64 r3)] []))) none))
theorem gVToldI_1_eq (t : Int) (b : List Int) (k : List CV) : bodyK Tryd.prog (EVToldI) 40 false Tryd.f74 [.cl (.agg [.int .i64 t, .sli .u8 b, .slg 3 k]), .cl (.int .i64 24), .cl (.fn (.func 84) [] [])] [] = gVToldI_1 t b k := by kernel_rfl
end Go.Proofs.YtfkpjbbkdkcdcaaDoorA

namespace Go.Proofs.YtfkpjbbkdkcdcaaDoorA
noncomputable def EVToldS : Env := {
 orc := fun g => cond (Nat.beq g 80) (SVUtf1) (cond (Nat.beq g 119) (SDFit_) (fun _ _ => Tree.fail))
 pre := fun g => cond (Nat.beq g 80) (preVUtf1) (cond (Nat.beq g 119) (preDFit_) (fun _ _ => true))
 byref := fun _ => []
 keep := fun _ => false
 live := fun _ => []
 ren := fun _ => []
 glob := glVal
 nt := 35
 lp := fun _ => none
 xl := fun r => cond (Nat.beq r 0) (some [6, 7]) (none)
}
theorem loopsVToldS : ∀ c, Tryd.f79.body = some c -> LoopsOk Tryd.prog (EVToldS) 40 c := by
 intro c hc
 cases hc
 exact ⟨trivial, ⟨trivial, ⟨⟨trivial, ⟨⟨trivial, trivial, jn_none rfl⟩, ⟨trivial, ⟨⟨trivial, trivial, jn_none rfl⟩, trivial, jn_none rfl⟩, jn_none rfl⟩, jn_none rfl⟩, jn_none rfl⟩, ⟨trivial, trivial, jn_none rfl⟩, jn_none rfl⟩, jn_none rfl⟩, jn_none rfl⟩
noncomputable def gVToldS (t : Int) (b : List Int) (k : List CV) : Option Out :=
 cond (!decide (t = 12)) (
  some (.ret [.cl (.str (⟨#[]⟩ : ByteArray)), .cl (.int .i64 4)] []))
 (
  cond (decide ((0 : Int) < ((k.length : Nat) : Int))) (
   some (.ret [.cl (.str (⟨#[]⟩ : ByteArray)), .cl (.int .i64 5)] []))
  (
   cond (isS ([.int .i64 12, .sli .u8 b, .slg 3 []])) (
   let r1 : Bool := ndFit ([.int .i64 12, .sli .u8 b, .slg 3 []])
   cond (!r1) (
    some (.ret [.cl (.str (⟨#[]⟩ : ByteArray)), .cl (.int .i64 5)] []))
   (
    let r2 : ByteArray := strOf b
    some (.ret [.cl (.str r2), .cl (.int .i64 0)] []))) none))
theorem gVToldS_eq (t : Int) (b : List Int) (k : List CV) : bodyK Tryd.prog (EVToldS) 40 false Tryd.f79 [.cl (.agg [.int .i64 t, .sli .u8 b, .slg 3 k]), .cl (.int .i64 12), .cl (.fn (.func 80) [] [])] [] = gVToldS t b k := by kernel_rfl
end Go.Proofs.YtfkpjbbkdkcdcaaDoorA

namespace Go.Proofs.YtfkpjbbkdkcdcaaDoorA
noncomputable def EVToldO : Env := {
 orc := fun g => cond (Nat.beq g 82) (SOParse) (cond (Nat.beq g 119) (SDFit_) (fun _ _ => Tree.fail))
 pre := fun g => cond (Nat.beq g 82) (preOParse) (cond (Nat.beq g 119) (preDFit_) (fun _ _ => true))
 byref := fun _ => []
 keep := fun _ => false
 live := fun _ => []
 ren := fun _ => []
 glob := glVal
 nt := 35
 lp := fun _ => none
 xl := fun r => cond (Nat.beq r 0) (some [6, 7]) (none)
}
theorem loopsVToldO : ∀ c, Tryd.f81.body = some c -> LoopsOk Tryd.prog (EVToldO) 40 c := by
 intro c hc
 cases hc
 exact ⟨trivial, ⟨trivial, ⟨⟨trivial, ⟨⟨trivial, trivial, jn_none rfl⟩, ⟨trivial, ⟨⟨trivial, trivial, jn_none rfl⟩, trivial, jn_none rfl⟩, jn_none rfl⟩, jn_none rfl⟩, jn_none rfl⟩, ⟨trivial, trivial, jn_none rfl⟩, jn_none rfl⟩, jn_none rfl⟩, jn_none rfl⟩
noncomputable def gVToldO (t : Int) (b : List Int) (k : List CV) : Option Out :=
 cond (!decide (t = 6)) (
  some (.ret [.cl (.sli .u32 []), .cl (.int .i64 4)] []))
 (
  cond (decide ((0 : Int) < ((k.length : Nat) : Int))) (
   some (.ret [.cl (.sli .u32 []), .cl (.int .i64 5)] []))
  (
   cond (isS ([.int .i64 6, .sli .u8 b, .slg 3 []])) (
   let r1 : Bool := ndFit ([.int .i64 6, .sli .u8 b, .slg 3 []])
   cond (!r1) (
    some (.ret [.cl (.sli .u32 []), .cl (.int .i64 5)] []))
   (
    cond (bytesOk b) (
    let r2 : List Int := (oidParse b).1
    let r3 : Int := (oidParse b).2
    some (.ret [.cl (.sli .u32 r2), .cl (.int .i64 r3)] [])) none)) none))
theorem gVToldO_eq (t : Int) (b : List Int) (k : List CV) : bodyK Tryd.prog (EVToldO) 40 false Tryd.f81 [.cl (.agg [.int .i64 t, .sli .u8 b, .slg 3 k]), .cl (.int .i64 6), .cl (.fn (.func 82) [] [])] [] = gVToldO t b k := by kernel_rfl
end Go.Proofs.YtfkpjbbkdkcdcaaDoorA

namespace Go.Proofs.YtfkpjbbkdkcdcaaDoorA
noncomputable def EVIntOf : Env := {
 orc := fun g => cond (Nat.beq g 74) (SVToldI) (cond (Nat.beq g 75) (SVNumber) (fun _ _ => Tree.fail))
 pre := fun g => cond (Nat.beq g 74) (preVToldI) (cond (Nat.beq g 75) (preVNumber) (fun _ _ => true))
 byref := fun _ => []
 keep := fun _ => false
 live := fun _ => []
 ren := fun _ => []
 glob := glVal
 nt := 8
 lp := fun _ => none
 xl := fun r => cond (Nat.beq r 0) (some [2, 3]) (none)
}
theorem loopsVIntOf : ∀ c, Tryd.f18.body = some c -> LoopsOk Tryd.prog (EVIntOf) 40 c := by
 intro c hc
 cases hc
 exact ⟨trivial, ⟨trivial, trivial, jn_none rfl⟩, jn_none rfl⟩
noncomputable def gVIntOf (t : Int) (b : List Int) (k : List CV) : Option Out :=
 cond (isS [.int .i64 t, .sli .u8 b, .slg 3 k]) (
 let r1 : Int := (vIntOf t b k).1
 let r2 : Int := (vIntOf t b k).2
 some (.ret [.cl (.int .i64 r1), .cl (.int .i64 r2)] [])) none
theorem gVIntOf_eq (t : Int) (b : List Int) (k : List CV) : bodyK Tryd.prog (EVIntOf) 40 false Tryd.f18 [.cl (.agg [.int .i64 t, .sli .u8 b, .slg 3 k])] [] = gVIntOf t b k := by kernel_rfl
end Go.Proofs.YtfkpjbbkdkcdcaaDoorA

namespace Go.Proofs.YtfkpjbbkdkcdcaaDoorA
noncomputable def EVBytesOf : Env := {
 orc := fun g => cond (Nat.beq g 78) (SSClone) (fun _ _ => Tree.fail)
 pre := fun g => cond (Nat.beq g 78) (preSClone) (fun _ _ => true)
 byref := fun _ => []
 keep := fun _ => false
 live := fun _ => []
 ren := fun _ => []
 glob := glVal
 nt := 16
 lp := fun _ => none
 xl := fun r => cond (Nat.beq r 0) (some [2, 3]) (none)
}
theorem loopsVBytesOf : ∀ c, Tryd.f20.body = some c -> LoopsOk Tryd.prog (EVBytesOf) 40 c := by
 intro c hc
 cases hc
 exact ⟨trivial, ⟨⟨trivial, ⟨⟨trivial, trivial, jn_none rfl⟩, ⟨trivial, ⟨⟨trivial, trivial, jn_none rfl⟩, trivial, jn_none rfl⟩, jn_none rfl⟩, jn_none rfl⟩, jn_none rfl⟩, ⟨trivial, trivial, jn_none rfl⟩, jn_none rfl⟩, jn_none rfl⟩
noncomputable def gVBytesOf (t : Int) (b : List Int) (k : List CV) : Option Out :=
 cond (!decide (t = 4)) (
  some (.ret [.cl (.sli .u8 []), .cl (.int .i64 4)] []))
 (
  cond (decide ((0 : Int) < ((k.length : Nat) : Int))) (
   some (.ret [.cl (.sli .u8 []), .cl (.int .i64 5)] []))
  (
   cond (lenOk b) (
   some (.ret [.cl (.sli .u8 b), .cl (.int .i64 0)] [])) none))
theorem gVBytesOf_eq (t : Int) (b : List Int) (k : List CV) : bodyK Tryd.prog (EVBytesOf) 40 false Tryd.f20 [.cl (.agg [.int .i64 t, .sli .u8 b, .slg 3 k])] [] = gVBytesOf t b k := by kernel_rfl
end Go.Proofs.YtfkpjbbkdkcdcaaDoorA

namespace Go.Proofs.YtfkpjbbkdkcdcaaDoorA
noncomputable def EVUtf8Of : Env := {
 orc := fun g => cond (Nat.beq g 79) (SVToldS) (cond (Nat.beq g 80) (SVUtf1) (fun _ _ => Tree.fail))
 pre := fun g => cond (Nat.beq g 79) (preVToldS) (cond (Nat.beq g 80) (preVUtf1) (fun _ _ => true))
 byref := fun _ => []
 keep := fun _ => false
 live := fun _ => []
 ren := fun _ => []
 glob := glVal
 nt := 8
 lp := fun _ => none
 xl := fun r => cond (Nat.beq r 0) (some [2, 3]) (none)
}
theorem loopsVUtf8Of : ∀ c, Tryd.f22.body = some c -> LoopsOk Tryd.prog (EVUtf8Of) 40 c := by
 intro c hc
 cases hc
 exact ⟨trivial, ⟨trivial, trivial, jn_none rfl⟩, jn_none rfl⟩
noncomputable def gVUtf8Of (t : Int) (b : List Int) (k : List CV) : Option Out :=
 cond (isS [.int .i64 t, .sli .u8 b, .slg 3 k]) (
 let r1 : ByteArray := (vUtfOf t b k).1
 let r2 : Int := (vUtfOf t b k).2
 some (.ret [.cl (.str r1), .cl (.int .i64 r2)] [])) none
theorem gVUtf8Of_eq (t : Int) (b : List Int) (k : List CV) : bodyK Tryd.prog (EVUtf8Of) 40 false Tryd.f22 [.cl (.agg [.int .i64 t, .sli .u8 b, .slg 3 k])] [] = gVUtf8Of t b k := by kernel_rfl
end Go.Proofs.YtfkpjbbkdkcdcaaDoorA

namespace Go.Proofs.YtfkpjbbkdkcdcaaDoorA
noncomputable def EVIdOf : Env := {
 orc := fun g => cond (Nat.beq g 81) (SVToldO) (cond (Nat.beq g 82) (SOParse) (fun _ _ => Tree.fail))
 pre := fun g => cond (Nat.beq g 81) (preVToldO) (cond (Nat.beq g 82) (preOParse) (fun _ _ => true))
 byref := fun _ => []
 keep := fun _ => false
 live := fun _ => []
 ren := fun _ => []
 glob := glVal
 nt := 8
 lp := fun _ => none
 xl := fun r => cond (Nat.beq r 0) (some [2, 3]) (none)
}
theorem loopsVIdOf : ∀ c, Tryd.f24.body = some c -> LoopsOk Tryd.prog (EVIdOf) 40 c := by
 intro c hc
 cases hc
 exact ⟨trivial, ⟨trivial, trivial, jn_none rfl⟩, jn_none rfl⟩
noncomputable def gVIdOf (t : Int) (b : List Int) (k : List CV) : Option Out :=
 cond (isS [.int .i64 t, .sli .u8 b, .slg 3 k]) (
 let r1 : List Int := (vIdOf t b k).1
 let r2 : Int := (vIdOf t b k).2
 some (.ret [.cl (.sli .u32 r1), .cl (.int .i64 r2)] [])) none
theorem gVIdOf_eq (t : Int) (b : List Int) (k : List CV) : bodyK Tryd.prog (EVIdOf) 40 false Tryd.f24 [.cl (.agg [.int .i64 t, .sli .u8 b, .slg 3 k])] [] = gVIdOf t b k := by kernel_rfl
end Go.Proofs.YtfkpjbbkdkcdcaaDoorA

namespace Go.Proofs.YtfkpjbbkdkcdcaaDoorA
noncomputable def EVTimeOf : Env := {
 orc := fun g => cond (Nat.beq g 74) (SVToldI) (cond (Nat.beq g 84) (SVTime1) (fun _ _ => Tree.fail))
 pre := fun g => cond (Nat.beq g 74) (preVToldI) (cond (Nat.beq g 84) (preVTime1) (fun _ _ => true))
 byref := fun _ => []
 keep := fun _ => false
 live := fun _ => []
 ren := fun _ => []
 glob := glVal
 nt := 8
 lp := fun _ => none
 xl := fun r => cond (Nat.beq r 0) (some [2, 3]) (none)
}
theorem loopsVTimeOf : ∀ c, Tryd.f26.body = some c -> LoopsOk Tryd.prog (EVTimeOf) 40 c := by
 intro c hc
 cases hc
 exact ⟨trivial, ⟨trivial, trivial, jn_none rfl⟩, jn_none rfl⟩
noncomputable def gVTimeOf (t : Int) (b : List Int) (k : List CV) : Option Out :=
 cond (isS [.int .i64 t, .sli .u8 b, .slg 3 k]) (
 let r1 : Int := (vTimeOf t b k).1
 let r2 : Int := (vTimeOf t b k).2
 some (.ret [.cl (.int .i64 r1), .cl (.int .i64 r2)] [])) none
theorem gVTimeOf_eq (t : Int) (b : List Int) (k : List CV) : bodyK Tryd.prog (EVTimeOf) 40 false Tryd.f26 [.cl (.agg [.int .i64 t, .sli .u8 b, .slg 3 k])] [] = gVTimeOf t b k := by kernel_rfl
end Go.Proofs.YtfkpjbbkdkcdcaaDoorA

namespace Go.Proofs.YtfkpjbbkdkcdcaaDoorA
noncomputable def EVRIntOf : Env := {
 orc := fun g => cond (Nat.beq g 76) (SVPlain) (cond (Nat.beq g 77) (SVR1Num) (fun _ _ => Tree.fail))
 pre := fun g => cond (Nat.beq g 76) (preVPlain) (cond (Nat.beq g 77) (preVR1Num) (fun _ _ => true))
 byref := fun _ => []
 keep := fun _ => false
 live := fun _ => []
 ren := fun _ => []
 glob := glVal
 nt := 37
 lp := fun _ => none
 xl := fun r => cond (Nat.beq r 0) (some [2, 3]) (none)
}
theorem loopsVRIntOf : ∀ c, Tryd.f19.body = some c -> LoopsOk Tryd.prog (EVRIntOf) 40 c := by
 intro c hc
 cases hc
 exact ⟨trivial, ⟨trivial, ⟨⟨trivial, ⟨⟨trivial, trivial, jn_none rfl⟩, trivial, jn_none rfl⟩, jn_none rfl⟩, ⟨⟨trivial, ⟨⟨trivial, trivial, jn_none rfl⟩, trivial, jn_none rfl⟩, jn_none rfl⟩, ⟨trivial, ⟨⟨trivial, ⟨trivial, trivial, jn_none rfl⟩, jn_none rfl⟩, ⟨trivial, trivial, jn_none rfl⟩, jn_none rfl⟩, jn_none rfl⟩, jn_none rfl⟩, jn_none rfl⟩, jn_none rfl⟩, jn_none rfl⟩
noncomputable def gVRIntOf (t : Int) (b : List Int) (k : List CV) : Option Out :=
 cond (isS [.int .i64 t, .sli .u8 b, .slg 3 k]) (
 let r1 : List Int := (vPlain 2 t b k).1
 let r2 : Int := (vPlain 2 t b k).2
 cond (!decide (r2 = 0)) (
  some (.ret [.cl (.int .i64 0), .cl (.int .i64 r2)] []))
 (
  cond (decide ((8 : Int) < ((r1.length : Nat) : Int))) (
   some (.ret [.cl (.int .i64 0), .cl (.int .i64 8)] []))
  (
   cond (num8 r1) (
   let r3 : Int := bytesNum r1
   let x4 : Int := IntKind.i64.wrap r3
   cond (decide ((0 : Int) < ((r1.length : Nat) : Int))) (
   Option.bind (r1[0]?) fun (e5 : Int) =>
   cond (decide ((128 : Int) <= e5)) (
    cond (decide (((r1.length : Nat) : Int) < 8)) (
     let x6 : Int := IntKind.i64.wrap ((8 : Int) * ((r1.length : Nat) : Int))
     cond (decide (x6 < 0)) none (
     let x7 : Int := IntKind.i64.wrap (1 * 2 ^ (min x6.toNat 64))
     let x8 : Int := IntKind.i64.wrap (x4 - x7)
     some (.ret [.cl (.int .i64 x8), .cl (.int .i64 0)] [])))
    (
     some (.ret [.cl (.int .i64 x4), .cl (.int .i64 0)] [])))
   (
    some (.ret [.cl (.int .i64 x4), .cl (.int .i64 0)] []))) none) none))) none
theorem gVRIntOf_eq (t : Int) (b : List Int) (k : List CV) : bodyK Tryd.prog (EVRIntOf) 40 false Tryd.f19 [.cl (.agg [.int .i64 t, .sli .u8 b, .slg 3 k])] [] = gVRIntOf t b k := by kernel_rfl
end Go.Proofs.YtfkpjbbkdkcdcaaDoorA

namespace Go.Proofs.YtfkpjbbkdkcdcaaDoorA
noncomputable def EVRBytesOf : Env := {
 orc := fun g => cond (Nat.beq g 76) (SVPlain) (fun _ _ => Tree.fail)
 pre := fun g => cond (Nat.beq g 76) (preVPlain) (fun _ _ => true)
 byref := fun _ => []
 keep := fun _ => false
 live := fun _ => []
 ren := fun _ => []
 glob := glVal
 nt := 8
 lp := fun _ => none
 xl := fun r => cond (Nat.beq r 0) (some [2, 3]) (none)
}
theorem loopsVRBytesOf : ∀ c, Tryd.f21.body = some c -> LoopsOk Tryd.prog (EVRBytesOf) 40 c := by
 intro c hc
 cases hc
 exact ⟨trivial, ⟨trivial, trivial, jn_none rfl⟩, jn_none rfl⟩
noncomputable def gVRBytesOf (t : Int) (b : List Int) (k : List CV) : Option Out :=
 cond (isS [.int .i64 t, .sli .u8 b, .slg 3 k]) (
 let r1 : List Int := (vPlain 4 t b k).1
 let r2 : Int := (vPlain 4 t b k).2
 some (.ret [.cl (.sli .u8 r1), .cl (.int .i64 r2)] [])) none
theorem gVRBytesOf_eq (t : Int) (b : List Int) (k : List CV) : bodyK Tryd.prog (EVRBytesOf) 40 false Tryd.f21 [.cl (.agg [.int .i64 t, .sli .u8 b, .slg 3 k])] [] = gVRBytesOf t b k := by kernel_rfl
end Go.Proofs.YtfkpjbbkdkcdcaaDoorA

namespace Go.Proofs.YtfkpjbbkdkcdcaaDoorA
noncomputable def EVRUtf8Of : Env := {
 orc := fun g => cond (Nat.beq g 76) (SVPlain) (fun _ _ => Tree.fail)
 pre := fun g => cond (Nat.beq g 76) (preVPlain) (fun _ _ => true)
 byref := fun _ => []
 keep := fun _ => false
 live := fun _ => []
 ren := fun _ => []
 glob := glVal
 nt := 14
 lp := fun _ => none
 xl := fun r => cond (Nat.beq r 0) (some [2, 3]) (none)
}
theorem loopsVRUtf8Of : ∀ c, Tryd.f23.body = some c -> LoopsOk Tryd.prog (EVRUtf8Of) 40 c := by
 intro c hc
 cases hc
 exact ⟨trivial, ⟨trivial, ⟨trivial, trivial, jn_none rfl⟩, jn_none rfl⟩, jn_none rfl⟩
noncomputable def gVRUtf8Of (t : Int) (b : List Int) (k : List CV) : Option Out :=
 cond (isS [.int .i64 t, .sli .u8 b, .slg 3 k]) (
 let r1 : List Int := (vPlain 12 t b k).1
 let r2 : Int := (vPlain 12 t b k).2
 let s3 : ByteArray := strOf r1
 some (.ret [.cl (.str s3), .cl (.int .i64 r2)] [])) none
theorem gVRUtf8Of_eq (t : Int) (b : List Int) (k : List CV) : bodyK Tryd.prog (EVRUtf8Of) 40 false Tryd.f23 [.cl (.agg [.int .i64 t, .sli .u8 b, .slg 3 k])] [] = gVRUtf8Of t b k := by kernel_rfl
end Go.Proofs.YtfkpjbbkdkcdcaaDoorA

namespace Go.Proofs.YtfkpjbbkdkcdcaaDoorA
noncomputable def EVRIdOf : Env := {
 orc := fun g => cond (Nat.beq g 76) (SVPlain) (cond (Nat.beq g 83) (SR2Parse) (fun _ _ => Tree.fail))
 pre := fun g => cond (Nat.beq g 76) (preVPlain) (cond (Nat.beq g 83) (preR2Parse) (fun _ _ => true))
 byref := fun _ => []
 keep := fun _ => false
 live := fun _ => []
 ren := fun _ => []
 glob := glVal
 nt := 18
 lp := fun _ => none
 xl := fun r => cond (Nat.beq r 0) (some [2, 3]) (none)
}
theorem loopsVRIdOf : ∀ c, Tryd.f25.body = some c -> LoopsOk Tryd.prog (EVRIdOf) 40 c := by
 intro c hc
 cases hc
 exact ⟨trivial, ⟨trivial, ⟨⟨trivial, ⟨⟨trivial, trivial, jn_none rfl⟩, trivial, jn_none rfl⟩, jn_none rfl⟩, ⟨trivial, trivial, jn_none rfl⟩, jn_none rfl⟩, jn_none rfl⟩, jn_none rfl⟩
noncomputable def gVRIdOf (t : Int) (b : List Int) (k : List CV) : Option Out :=
 cond (isS [.int .i64 t, .sli .u8 b, .slg 3 k]) (
 let r1 : List Int := (vPlain 6 t b k).1
 let r2 : Int := (vPlain 6 t b k).2
 cond (!decide (r2 = 0)) (
  some (.ret [.cl (.sli .u32 []), .cl (.int .i64 r2)] []))
 (
  cond (bytesOk r1) (
  let r3 : List Int := (oidParse r1).1
  let r4 : Int := (oidParse r1).2
  some (.ret [.cl (.sli .u32 r3), .cl (.int .i64 r4)] [])) none)) none
theorem gVRIdOf_eq (t : Int) (b : List Int) (k : List CV) : bodyK Tryd.prog (EVRIdOf) 40 false Tryd.f25 [.cl (.agg [.int .i64 t, .sli .u8 b, .slg 3 k])] [] = gVRIdOf t b k := by kernel_rfl
end Go.Proofs.YtfkpjbbkdkcdcaaDoorA

namespace Go.Proofs.YtfkpjbbkdkcdcaaDoorA
noncomputable def EVRTimeOf : Env := {
 orc := fun g => cond (Nat.beq g 76) (SVPlain) (cond (Nat.beq g 86) (SRRead) (fun _ _ => Tree.fail))
 pre := fun g => cond (Nat.beq g 76) (preVPlain) (cond (Nat.beq g 86) (preRRead) (fun _ _ => true))
 byref := fun _ => []
 keep := fun _ => false
 live := fun _ => []
 ren := fun _ => []
 glob := glVal
 nt := 19
 lp := fun _ => none
 xl := fun r => cond (Nat.beq r 0) (some [2, 3]) (none)
}
theorem loopsVRTimeOf : ∀ c, Tryd.f27.body = some c -> LoopsOk Tryd.prog (EVRTimeOf) 40 c := by
 intro c hc
 cases hc
 exact ⟨trivial, ⟨trivial, ⟨⟨trivial, ⟨⟨trivial, trivial, jn_none rfl⟩, trivial, jn_none rfl⟩, jn_none rfl⟩, ⟨trivial, trivial, jn_none rfl⟩, jn_none rfl⟩, jn_none rfl⟩, jn_none rfl⟩
noncomputable def gVRTimeOf (t : Int) (b : List Int) (k : List CV) : Option Out :=
 cond (isS [.int .i64 t, .sli .u8 b, .slg 3 k]) (
 let r1 : List Int := (vPlain 24 t b k).1
 let r2 : Int := (vPlain 24 t b k).2
 cond (!decide (r2 = 0)) (
  some (.ret [.cl (.int .i64 0), .cl (.int .i64 r2)] []))
 (
  let s3 : ByteArray := strOf r1
  let r4 : Int := (stRead s3).1
  let r5 : Int := (stRead s3).2
  some (.ret [.cl (.int .i64 r4), .cl (.int .i64 r5)] []))) none
theorem gVRTimeOf_eq (t : Int) (b : List Int) (k : List CV) : bodyK Tryd.prog (EVRTimeOf) 40 false Tryd.f27 [.cl (.agg [.int .i64 t, .sli .u8 b, .slg 3 k])] [] = gVRTimeOf t b k := by kernel_rfl
end Go.Proofs.YtfkpjbbkdkcdcaaDoorA

namespace Go.Proofs.YtfkpjbbkdkcdcaaDoorA
noncomputable def EVCmp : Env := {
 orc := fun g => cond (Nat.beq g 71) (SBCompare) (fun _ _ => Tree.fail)
 pre := fun g => cond (Nat.beq g 71) (preBCompare) (fun _ _ => true)
 byref := fun _ => []
 keep := fun _ => false
 live := fun _ => []
 ren := fun _ => []
 glob := glVal
 nt := 10
 lp := fun _ => none
 xl := fun r => cond (Nat.beq r 0) (some [4]) (none)
}
theorem loopsVCmp : ∀ c, Tryd.f70.body = some c -> LoopsOk Tryd.prog (EVCmp) 40 c := by
 intro c hc
 cases hc
 exact ⟨trivial, ⟨trivial, trivial, jn_none rfl⟩, jn_none rfl⟩
noncomputable def gVCmp (ta : Int) (ba : List Int) (ka : List CV) (wa : List Int) (tb : Int) (bb : List Int) (kb : List CV) (wb : List Int) : Option Out :=
 cond (bytesOk wa && bytesOk wb) (
 let r1 : Int := listCmp wa wb
 some (.ret [.cl (.int .i64 r1)] [])) none
theorem gVCmp_eq (ta : Int) (ba : List Int) (ka : List CV) (wa : List Int) (tb : Int) (bb : List Int) (kb : List CV) (wb : List Int) : bodyK Tryd.prog (EVCmp) 40 false Tryd.f70 [.cl (.agg [.int .i64 ta, .sli .u8 ba, .slg 3 ka, .sli .u8 wa]), .cl (.agg [.int .i64 tb, .sli .u8 bb, .slg 3 kb, .sli .u8 wb])] [] = gVCmp ta ba ka wa tb bb kb wb := by kernel_rfl
end Go.Proofs.YtfkpjbbkdkcdcaaDoorA

namespace Go.Proofs.YtfkpjbbkdkcdcaaDoorA
noncomputable def lpVInsert_4s (again : Nat -> Int -> Int -> Int -> Int -> (List CV) -> Option Out) (k0 : Nat -> Int -> Int -> Int -> (List CV) -> Option Out) (v1 : Nat) (v2 : Int) (v3 : Int) (v4 : Int) (v5 : Int) (v6 : List CV) : Option Out :=
 cond (decide (v2 < v5)) (
  idxK v5 v1 fun _ =>
  Option.bind (v6[(0 + (Int.toNat v5))]?) fun (e2 : CV) =>
  let e3 : CV := (cell1 e2).headD .nili
  let e4 : CV := (cell1 e2).tail.headD .nili
  let e5 : CV := (cell1 e2).tail.tail.headD .nili
  let e6 : CV := (cell1 e2).tail.tail.tail.headD .nili
  cond (okInt .i64 e3 && (okSli .u8 e4 && (okSlg 3 e5 && (okSli .u8 e6 && true)))) (
  let l10 : List Int := cvSli e6
  let x11 : Int := IntKind.i64.wrap (v5 - 1)
  idxK x11 v1 fun _ =>
  Option.bind (v6[(0 + (Int.toNat x11))]?) fun (e12 : CV) =>
  let e13 : CV := (cell1 e12).headD .nili
  let e14 : CV := (cell1 e12).tail.headD .nili
  let e15 : CV := (cell1 e12).tail.tail.headD .nili
  let e16 : CV := (cell1 e12).tail.tail.tail.headD .nili
  cond (okInt .i64 e13 && (okSli .u8 e14 && (okSlg 3 e15 && (okSli .u8 e16 && true)))) (
  let l20 : List Int := cvSli e16
  cond (bytesOk l10 && bytesOk l20) (
  let r21 : Int := listCmp l10 l20
  cond (decide (r21 < 0)) (
   let x22 : Int := IntKind.i64.wrap (v5 - 1)
   let x23 : Int := IntKind.i64.wrap (v5 - 1)
   idxK x23 v1 fun _ =>
   Option.bind (v6[(0 + (Int.toNat x23))]?) fun (e24 : CV) =>
   let e25 : CV := (cell1 e24).headD .nili
   let e26 : CV := (cell1 e24).tail.headD .nili
   let e27 : CV := (cell1 e24).tail.tail.headD .nili
   let e28 : CV := (cell1 e24).tail.tail.tail.headD .nili
   cond (okInt .i64 e25 && (okSli .u8 e26 && (okSlg 3 e27 && (okSli .u8 e28 && true)))) (
   let i29 : Int := cvInt e25
   let l30 : List Int := cvSli e26
   let l31 : List CV := cvSlg e27
   let l32 : List Int := cvSli e28
   idxK v5 v1 fun _ =>
   Option.bind (v6[(0 + (Int.toNat v5))]?) fun (e33 : CV) =>
   let e34 : CV := (cell1 e33).headD .nili
   let e35 : CV := (cell1 e33).tail.headD .nili
   let e36 : CV := (cell1 e33).tail.tail.headD .nili
   let e37 : CV := (cell1 e33).tail.tail.tail.headD .nili
   cond (okInt .i64 e34 && (okSli .u8 e35 && (okSlg 3 e36 && (okSli .u8 e37 && true)))) (
   let i38 : Int := cvInt e34
   let l39 : List Int := cvSli e35
   let l40 : List CV := cvSlg e36
   let l41 : List Int := cvSli e37
   idxK v5 v1 fun _ =>
   let l42 : List CV := v6.set (0 + (Int.toNat v5)) (.agg [.int .i64 i29, .sli .u8 l30, .slg 3 l31, .sli .u8 l32])
   idxK x22 v1 fun _ =>
   let l43 : List CV := l42.set (0 + (Int.toNat x22)) (.agg [.int .i64 i38, .sli .u8 l39, .slg 3 l40, .sli .u8 l41])
   let x44 : Int := IntKind.i64.wrap (v5 - 1)
   again v1 v2 v3 v4 x44 l43) none) none)
  (
   k0 v1 v2 v3 v4 v6)) none) none) none)
 (
  k0 v1 v2 v3 v4 v6)
noncomputable def lpVInsert_4 (k0 : Nat -> Int -> Int -> Int -> (List CV) -> Option Out) : Nat -> Nat -> Int -> Int -> Int -> Int -> (List CV) -> Option Out := iterF (fun a => lpVInsert_4s a k0) (fun _ _ _ _ _ _ => none)
noncomputable def lpVInsert_1s (again : Nat -> Int -> Int -> Int -> (List CV) -> Option Out) (k0 : (List CV) -> Option Out) (v1 : Nat) (v2 : Int) (v3 : Int) (v4 : Int) (v5 : List CV) : Option Out :=
 cond (decide (v4 < v3)) (
  shut (lpVInsert_4
  (fun (y2 : Nat) (y3 : Int) (y4 : Int) (y5 : Int) (y6 : List CV) =>
   let x7 : Int := IntKind.i64.wrap (y5 + 1)
   again y2 y3 y4 x7 y6)
  FUEL) v1 v2 v3 v4 v4 v5)
 (
  k0 v5)
noncomputable def lpVInsert_1 (k0 : (List CV) -> Option Out) : Nat -> Nat -> Int -> Int -> Int -> (List CV) -> Option Out := iterF (fun a => lpVInsert_1s a k0) (fun _ _ _ _ _ => none)
noncomputable def LVInsert_4 : St -> (Ex -> St -> Option Out) -> Option Out := fun σ k => match σ with
 | ⟨[(q1, .ref q2 q3 v1 true q4), (q5, .cl (.int .i64 v2)), (q6, .cl (.int .i64 v3)), (q7, .cl (.fn (.func q8) [] [])), (q9, .cl (.int .i64 v4)), (q10, .cl (.int .i64 v5))], [(q11, ⟨.gen q12 v6, false⟩)]⟩ => cond (Nat.beq q1 0 && Nat.beq q2 0 && Nat.beq q3 0 && Nat.beq q4 4 && Nat.beq q5 1 && Nat.beq q6 2 && Nat.beq q7 3 && Nat.beq q8 70 && Nat.beq q9 8 && Nat.beq q10 9 && Nat.beq q11 0 && Nat.beq q12 4) (shut (lpVInsert_4 (fun y1 y2 y3 y4 y5 => k (.exit 2) ⟨[(0, .ref 0 0 y1 true 4), (1, .cl (.int .i64 y2)), (2, .cl (.int .i64 y3)), (3, .cl (.fn (.func 70) [] [])), (8, .cl (.int .i64 y4))], [(0, ⟨.gen 4 y5, false⟩)]⟩) FUEL) v1 v2 v3 v4 v5 v6) none
 | _ => none
noncomputable def LVInsert_1 : St -> (Ex -> St -> Option Out) -> Option Out := fun σ k => match σ with
 | ⟨[(q1, .ref q2 q3 v1 true q4), (q5, .cl (.int .i64 v2)), (q6, .cl (.int .i64 v3)), (q7, .cl (.fn (.func q8) [] [])), (q9, .cl (.int .i64 v4))], [(q10, ⟨.gen q11 v5, false⟩)]⟩ => cond (Nat.beq q1 0 && Nat.beq q2 0 && Nat.beq q3 0 && Nat.beq q4 4 && Nat.beq q5 1 && Nat.beq q6 2 && Nat.beq q7 3 && Nat.beq q8 70 && Nat.beq q9 8 && Nat.beq q10 0 && Nat.beq q11 4) (shut (lpVInsert_1 (fun y1 => k (.exit 0) ⟨[], [(0, ⟨.gen 4 y1, false⟩)]⟩) FUEL) v1 v2 v3 v4 v5) none
 | _ => none
noncomputable def EVInsert : Env := {
 orc := fun g => cond (Nat.beq g 70) (SVCmp) (fun _ _ => Tree.fail)
 pre := fun g => cond (Nat.beq g 70) (preVCmp) (fun _ _ => true)
 byref := fun _ => []
 keep := fun _ => false
 live := fun r => cond (Nat.beq r 1) ([0, 1, 2, 3, 8]) (cond (Nat.beq r 4) ([0, 1, 2, 3, 8, 9]) ([]))
 ren := fun _ => []
 glob := glVal
 nt := 53
 lp := fun r => cond (Nat.beq r 1) (some (LVInsert_1)) (cond (Nat.beq r 4) (some (LVInsert_4)) (none))
 xl := fun r => cond (Nat.beq r 0) (some []) (cond (Nat.beq r 1) (some []) (cond (Nat.beq r 3) (some [0, 1, 2, 3, 8]) (none)))
}
noncomputable def blpVInsert_4 : Code := (Cd.fst (Cd.fst (Cd.snd (Cd.fst (Cd.fst (Cd.snd (Cd.fst (Cd.fst (Cd.snd (Tryd.f152.body.getD .skip))))))))))
noncomputable def blpVInsert_1 : Code := (Cd.fst (Cd.fst (Cd.snd (Tryd.f152.body.getD .skip))))
theorem LVInsert_4_ok : LpOk Tryd.prog (EVInsert) 40 blpVInsert_4 4 LVInsert_4 := by
 intro σ k r h
 unfold LVInsert_4 at h
 split at h
 ·replace h := cond_some h
  obtain ⟨hc, h⟩ := h
  simp only [Bool.and_eq_true, beq_prop, decide_eq_true_eq, Bool.not_eq_true'] at hc
  obtain ⟨⟨⟨⟨⟨⟨⟨⟨⟨⟨⟨rfl, rfl⟩, rfl⟩, rfl⟩, rfl⟩, rfl⟩, rfl⟩, rfl⟩, rfl⟩, rfl⟩, rfl⟩, rfl⟩ := hc
  rw [shut_eq] at h
  exact ⟨FUEL, iter_ok (F := fun n v1 v2 v3 v4 v5 v6 => iterK n (codeK Tryd.prog (EVInsert) 40 blpVInsert_4) (head (EVInsert) 4) ⟨[(0, .ref 0 0 v1 true 4), (1, .cl (.int .i64 v2)), (2, .cl (.int .i64 v3)), (3, .cl (.fn (.func 70) [] [])), (8, .cl (.int .i64 v4)), (9, .cl (.int .i64 v5))], [(0, ⟨.gen 4 v6, false⟩)]⟩ k) (Q := fun f => f _ _ _ _ _ _ = some r) rfl (fun n => by kernel_rfl) h⟩
 ·cases h
theorem LVInsert_1_ok : LpOk Tryd.prog (EVInsert) 40 blpVInsert_1 1 LVInsert_1 := by
 intro σ k r h
 unfold LVInsert_1 at h
 split at h
 ·replace h := cond_some h
  obtain ⟨hc, h⟩ := h
  simp only [Bool.and_eq_true, beq_prop, decide_eq_true_eq, Bool.not_eq_true'] at hc
  obtain ⟨⟨⟨⟨⟨⟨⟨⟨⟨⟨rfl, rfl⟩, rfl⟩, rfl⟩, rfl⟩, rfl⟩, rfl⟩, rfl⟩, rfl⟩, rfl⟩, rfl⟩ := hc
  rw [shut_eq] at h
  exact ⟨FUEL, iter_ok (F := fun n v1 v2 v3 v4 v5 => iterK n (codeK Tryd.prog (EVInsert) 40 blpVInsert_1) (head (EVInsert) 1) ⟨[(0, .ref 0 0 v1 true 4), (1, .cl (.int .i64 v2)), (2, .cl (.int .i64 v3)), (3, .cl (.fn (.func 70) [] [])), (8, .cl (.int .i64 v4))], [(0, ⟨.gen 4 v5, false⟩)]⟩ k) (Q := fun f => f _ _ _ _ _ = some r) rfl (fun n => by kernel_rfl) h⟩
 ·cases h
theorem loopsVInsert : ∀ c, Tryd.f152.body = some c -> LoopsOk Tryd.prog (EVInsert) 40 c := by
 intro c hc
 cases hc
 exact ⟨trivial, ⟨⟨⟨trivial, ⟨trivial, trivial, jn_none rfl⟩, jn_none rfl⟩, ⟨⟨trivial, ⟨⟨⟨trivial, ⟨trivial, trivial, jn_none rfl⟩, jn_none rfl⟩, ⟨trivial, trivial, jn_none rfl⟩, jn_none rfl⟩, lp_some rfl (LVInsert_4_ok)⟩, jn_none rfl⟩, trivial, jn_none rfl⟩, jn_none rfl⟩, lp_some rfl (LVInsert_1_ok)⟩, jn_none rfl⟩
noncomputable def gVInsert (m : Nat) (a : Int) (n : Int) (l : List CV) : Option Out :=
 let x1 : Int := IntKind.i64.wrap (a + 1)
 shut (lpVInsert_1
 (fun (y2 : List CV) =>
  some (.ret [] [some ⟨.gen 4 y2, false⟩]))
 FUEL) m a n x1 l
theorem gVInsert_eq (m : Nat) (a : Int) (n : Int) (l : List CV) : bodyK Tryd.prog (EVInsert) 40 false Tryd.f152 [.ref 0 0 m true 4, .cl (.int .i64 a), .cl (.int .i64 n), .cl (.fn (.func 70) [] [])] [⟨.gen 4 l, false⟩] = gVInsert m a n l := by kernel_rfl
end Go.Proofs.YtfkpjbbkdkcdcaaDoorA

namespace Go.Proofs.YtfkpjbbkdkcdcaaDoorA
noncomputable def lpVStable_2s (again : Nat -> Int -> Int -> Int -> (List CV) -> Option Out) (k0 : Nat -> Int -> Int -> (List CV) -> Option Out) (v1 : Nat) (v2 : Int) (v3 : Int) (v4 : Int) (v5 : List CV) : Option Out :=
 cond (decide (v4 <= v2)) (
  cond (srtOk v1 v5 && decide (v3 = 0 /\ v4 = (v1 : Int))) (
  let r1 : List CV := vSort v5
  let x2 : Int := IntKind.i64.wrap (v4 + 20)
  again v1 v2 v4 x2 r1) none)
 (
  k0 v1 v2 v3 v5)
noncomputable def lpVStable_2 (k0 : Nat -> Int -> Int -> (List CV) -> Option Out) : Nat -> Nat -> Int -> Int -> Int -> (List CV) -> Option Out := iterF (fun a => lpVStable_2s a k0) (fun _ _ _ _ _ => none)
noncomputable def lpVStable_9s (again : Nat -> Int -> Int -> Int -> Int -> (List CV) -> Option Out) (k0 : Nat -> Int -> Int -> Int -> (List CV) -> Option Out) (v1 : Nat) (v2 : Int) (v3 : Int) (v4 : Int) (v5 : Int) (v6 : List CV) : Option Out :=
 cond (decide (v5 <= v2)) (
  cond (false) (
  let x8 : Int := IntKind.i64.wrap ((2 : Int) * v3)
  let x9 : Int := IntKind.i64.wrap (v5 + x8)
  again v1 v2 v3 v5 x9 v6) none)
 (
  k0 v1 v2 v3 v4 v6)
noncomputable def lpVStable_9 (k0 : Nat -> Int -> Int -> Int -> (List CV) -> Option Out) : Nat -> Nat -> Int -> Int -> Int -> Int -> (List CV) -> Option Out := iterF (fun a => lpVStable_9s a k0) (fun _ _ _ _ _ _ => none)
noncomputable def lpVStable_7s (again : Nat -> Int -> Int -> (List CV) -> Option Out) (k0 : (List CV) -> Option Out) (v1 : Nat) (v2 : Int) (v3 : Int) (v4 : List CV) : Option Out :=
 cond (decide (v3 < v2)) (
  let x6 : Int := IntKind.i64.wrap ((2 : Int) * v3)
  shut (lpVStable_9
  (fun (y7 : Nat) (y8 : Int) (y9 : Int) (y10 : Int) (y11 : List CV) =>
   let x12 : Int := IntKind.i64.wrap (y10 + y9)
   cond (decide (x12 < y8)) (
    cond (false) (
    let x13 : Int := IntKind.i64.wrap (y9 * 2)
    again y7 y8 x13 y11) none)
   (
    let x14 : Int := IntKind.i64.wrap (y9 * 2)
    again y7 y8 x14 y11))
  FUEL) v1 v2 v3 0 x6 v4)
 (
  k0 v4)
noncomputable def lpVStable_7 (k0 : (List CV) -> Option Out) : Nat -> Nat -> Int -> Int -> (List CV) -> Option Out := iterF (fun a => lpVStable_7s a k0) (fun _ _ _ _ => none)
noncomputable def LVStable_2 : St -> (Ex -> St -> Option Out) -> Option Out := fun σ k => match σ with
 | ⟨[(q1, .ref q2 q3 v1 true q4), (q5, .cl (.int .i64 v2)), (q6, .cl (.fn (.func q7) [] [])), (q8, .cl (.int .i64 q9)), (q10, .cl (.int .i64 v3)), (q11, .cl (.int .i64 v4))], [(q12, ⟨.gen q13 v5, false⟩)]⟩ => cond (Nat.beq q1 0 && Nat.beq q2 0 && Nat.beq q3 0 && Nat.beq q4 4 && Nat.beq q5 1 && Nat.beq q6 2 && Nat.beq q7 70 && Nat.beq q8 6 && decide (q9 = 20) && Nat.beq q10 7 && Nat.beq q11 8 && Nat.beq q12 0 && Nat.beq q13 4) (shut (lpVStable_2 (fun y1 y2 y3 y4 => k (.exit 0) ⟨[(0, .ref 0 0 y1 true 4), (1, .cl (.int .i64 y2)), (2, .cl (.fn (.func 70) [] [])), (6, .cl (.int .i64 20)), (7, .cl (.int .i64 y3))], [(0, ⟨.gen 4 y4, false⟩)]⟩) FUEL) v1 v2 v3 v4 v5) none
 | _ => none
noncomputable def LVStable_9 : St -> (Ex -> St -> Option Out) -> Option Out := fun σ k => match σ with
 | ⟨[(q1, .ref q2 q3 v1 true q4), (q5, .cl (.int .i64 v2)), (q6, .cl (.fn (.func q7) [] [])), (q8, .cl (.int .i64 v3)), (q9, .cl (.int .i64 v4)), (q10, .cl (.int .i64 v5))], [(q11, ⟨.gen q12 v6, false⟩)]⟩ => cond (Nat.beq q1 0 && Nat.beq q2 0 && Nat.beq q3 0 && Nat.beq q4 4 && Nat.beq q5 1 && Nat.beq q6 2 && Nat.beq q7 70 && Nat.beq q8 6 && Nat.beq q9 7 && Nat.beq q10 8 && Nat.beq q11 0 && Nat.beq q12 4) (shut (lpVStable_9 (fun y1 y2 y3 y4 y5 => k (.exit 4) ⟨[(0, .ref 0 0 y1 true 4), (1, .cl (.int .i64 y2)), (2, .cl (.fn (.func 70) [] [])), (6, .cl (.int .i64 y3)), (7, .cl (.int .i64 y4))], [(0, ⟨.gen 4 y5, false⟩)]⟩) FUEL) v1 v2 v3 v4 v5 v6) none
 | _ => none
noncomputable def LVStable_7 : St -> (Ex -> St -> Option Out) -> Option Out := fun σ k => match σ with
 | ⟨[(q1, .ref q2 q3 v1 true q4), (q5, .cl (.int .i64 v2)), (q6, .cl (.fn (.func q7) [] [])), (q8, .cl (.int .i64 v3))], [(q9, ⟨.gen q10 v4, false⟩)]⟩ => cond (Nat.beq q1 0 && Nat.beq q2 0 && Nat.beq q3 0 && Nat.beq q4 4 && Nat.beq q5 1 && Nat.beq q6 2 && Nat.beq q7 70 && Nat.beq q8 6 && Nat.beq q9 0 && Nat.beq q10 4) (shut (lpVStable_7 (fun y1 => k (.exit 2) ⟨[], [(0, ⟨.gen 4 y1, false⟩)]⟩) FUEL) v1 v2 v3 v4) none
 | _ => none
noncomputable def EVStable : Env := {
 orc := fun g => cond (Nat.beq g 70) (SVCmp) (cond (Nat.beq g 152) (SVInsert) (cond (Nat.beq g 153) (SVMerge) (fun _ _ => Tree.fail)))
 pre := fun g => cond (Nat.beq g 70) (preVCmp) (cond (Nat.beq g 152) (preVInsert) (cond (Nat.beq g 153) (preVMerge) (fun _ _ => true)))
 byref := fun g => cond (Nat.beq g 152) ([0]) (cond (Nat.beq g 153) ([0]) ([]))
 keep := fun _ => false
 live := fun r => cond (Nat.beq r 2) ([0, 1, 2, 6, 7, 8]) (cond (Nat.beq r 7) ([0, 1, 2, 6]) (cond (Nat.beq r 9) ([0, 1, 2, 6, 7, 8]) ([])))
 ren := fun _ => []
 glob := glVal
 nt := 63
 lp := fun r => cond (Nat.beq r 2) (some (LVStable_2)) (cond (Nat.beq r 7) (some (LVStable_7)) (cond (Nat.beq r 9) (some (LVStable_9)) (none)))
 xl := fun r => cond (Nat.beq r 0) (some []) (cond (Nat.beq r 1) (some [0, 1, 2, 6, 7]) (cond (Nat.beq r 3) (some []) (cond (Nat.beq r 5) (some [0, 1, 2, 6, 7]) (none))))
}
noncomputable def blpVStable_2 : Code := (Cd.fst (Cd.fst (Cd.fst (Cd.snd (Cd.snd (Tryd.f115.body.getD .skip))))))
noncomputable def blpVStable_9 : Code := (Cd.fst (Cd.fst (Cd.fst (Cd.snd (Cd.fst (Cd.snd (Cd.fst (Cd.fst (Cd.snd (Cd.snd (Cd.snd (Cd.snd (Tryd.f115.body.getD .skip)))))))))))))
noncomputable def blpVStable_7 : Code := (Cd.fst (Cd.fst (Cd.snd (Cd.snd (Cd.snd (Cd.snd (Tryd.f115.body.getD .skip)))))))
theorem LVStable_2_ok : LpOk Tryd.prog (EVStable) 40 blpVStable_2 2 LVStable_2 := by
 intro σ k r h
 unfold LVStable_2 at h
 split at h
 ·replace h := cond_some h
  obtain ⟨hc, h⟩ := h
  simp only [Bool.and_eq_true, beq_prop, decide_eq_true_eq, Bool.not_eq_true'] at hc
  obtain ⟨⟨⟨⟨⟨⟨⟨⟨⟨⟨⟨⟨rfl, rfl⟩, rfl⟩, rfl⟩, rfl⟩, rfl⟩, rfl⟩, rfl⟩, rfl⟩, rfl⟩, rfl⟩, rfl⟩, rfl⟩ := hc
  rw [shut_eq] at h
  exact ⟨FUEL, iter_ok (F := fun n v1 v2 v3 v4 v5 => iterK n (codeK Tryd.prog (EVStable) 40 blpVStable_2) (head (EVStable) 2) ⟨[(0, .ref 0 0 v1 true 4), (1, .cl (.int .i64 v2)), (2, .cl (.fn (.func 70) [] [])), (6, .cl (.int .i64 20)), (7, .cl (.int .i64 v3)), (8, .cl (.int .i64 v4))], [(0, ⟨.gen 4 v5, false⟩)]⟩ k) (Q := fun f => f _ _ _ _ _ = some r) rfl (fun n => by kernel_rfl) h⟩
 ·cases h
theorem LVStable_9_ok : LpOk Tryd.prog (EVStable) 40 blpVStable_9 9 LVStable_9 := by
 intro σ k r h
 unfold LVStable_9 at h
 split at h
 ·replace h := cond_some h
  obtain ⟨hc, h⟩ := h
  simp only [Bool.and_eq_true, beq_prop, decide_eq_true_eq, Bool.not_eq_true'] at hc
  obtain ⟨⟨⟨⟨⟨⟨⟨⟨⟨⟨⟨rfl, rfl⟩, rfl⟩, rfl⟩, rfl⟩, rfl⟩, rfl⟩, rfl⟩, rfl⟩, rfl⟩, rfl⟩, rfl⟩ := hc
  rw [shut_eq] at h
  exact ⟨FUEL, iter_ok (F := fun n v1 v2 v3 v4 v5 v6 => iterK n (codeK Tryd.prog (EVStable) 40 blpVStable_9) (head (EVStable) 9) ⟨[(0, .ref 0 0 v1 true 4), (1, .cl (.int .i64 v2)), (2, .cl (.fn (.func 70) [] [])), (6, .cl (.int .i64 v3)), (7, .cl (.int .i64 v4)), (8, .cl (.int .i64 v5))], [(0, ⟨.gen 4 v6, false⟩)]⟩ k) (Q := fun f => f _ _ _ _ _ _ = some r) rfl (fun n => by kernel_rfl) h⟩
 ·cases h
theorem LVStable_7_ok : LpOk Tryd.prog (EVStable) 40 blpVStable_7 7 LVStable_7 := by
 intro σ k r h
 unfold LVStable_7 at h
 split at h
 ·replace h := cond_some h
  obtain ⟨hc, h⟩ := h
  simp only [Bool.and_eq_true, beq_prop, decide_eq_true_eq, Bool.not_eq_true'] at hc
  obtain ⟨⟨⟨⟨⟨⟨⟨⟨⟨rfl, rfl⟩, rfl⟩, rfl⟩, rfl⟩, rfl⟩, rfl⟩, rfl⟩, rfl⟩, rfl⟩ := hc
  rw [shut_eq] at h
  exact ⟨FUEL, iter_ok (F := fun n v1 v2 v3 v4 => iterK n (codeK Tryd.prog (EVStable) 40 blpVStable_7) (head (EVStable) 7) ⟨[(0, .ref 0 0 v1 true 4), (1, .cl (.int .i64 v2)), (2, .cl (.fn (.func 70) [] [])), (6, .cl (.int .i64 v3))], [(0, ⟨.gen 4 v4, false⟩)]⟩ k) (Q := fun f => f _ _ _ _ = some r) rfl (fun n => by kernel_rfl) h⟩
 ·cases h
theorem loopsVStable : ∀ c, Tryd.f115.body = some c -> LoopsOk Tryd.prog (EVStable) 40 c := by
 intro c hc
 cases hc
 exact ⟨trivial, ⟨trivial, ⟨⟨⟨⟨trivial, ⟨trivial, trivial, jn_none rfl⟩, jn_none rfl⟩, ⟨trivial, ⟨trivial, trivial, jn_none rfl⟩, jn_none rfl⟩, jn_none rfl⟩, lp_some rfl (LVStable_2_ok)⟩, ⟨trivial, ⟨⟨⟨trivial, ⟨trivial, trivial, jn_none rfl⟩, jn_none rfl⟩, ⟨trivial, ⟨⟨⟨⟨trivial, ⟨trivial, trivial, jn_none rfl⟩, jn_none rfl⟩, ⟨trivial, ⟨trivial, trivial, jn_none rfl⟩, jn_none rfl⟩, jn_none rfl⟩, lp_some rfl (LVStable_9_ok)⟩, ⟨⟨trivial, ⟨trivial, ⟨trivial, trivial, jn_none rfl⟩, jn_none rfl⟩, jn_none rfl⟩, trivial, jn_none rfl⟩, jn_none rfl⟩, jn_none rfl⟩, jn_none rfl⟩, lp_some rfl (LVStable_7_ok)⟩, jn_none rfl⟩, jn_none rfl⟩, jn_none rfl⟩, jn_none rfl⟩
noncomputable def gVStable (m : Nat) (n : Int) (l : List CV) : Option Out :=
 shut (lpVStable_2
 (fun (y1 : Nat) (y2 : Int) (y3 : Int) (y4 : List CV) =>
  cond (srtOk y1 y4 && decide (y3 = 0 /\ y2 = (y1 : Int))) (
  let r5 : List CV := vSort y4
  shut (lpVStable_7
  (fun (y6 : List CV) =>
   some (.ret [] [some ⟨.gen 4 y6, false⟩]))
  FUEL) y1 y2 20 r5) none)
 FUEL) m n 0 20 l
theorem gVStable_eq (m : Nat) (n : Int) (l : List CV) : bodyK Tryd.prog (EVStable) 40 false Tryd.f115 [.ref 0 0 m true 4, .cl (.int .i64 n), .cl (.fn (.func 70) [] [])] [⟨.gen 4 l, false⟩] = gVStable m n l := by kernel_rfl
end Go.Proofs.YtfkpjbbkdkcdcaaDoorA

namespace Go.Proofs.YtfkpjbbkdkcdcaaDoorA
noncomputable def EVSort : Env := {
 orc := fun g => cond (Nat.beq g 70) (SVCmp) (cond (Nat.beq g 115) (SVStable) (fun _ _ => Tree.fail))
 pre := fun g => cond (Nat.beq g 70) (preVCmp) (cond (Nat.beq g 115) (preVStable) (fun _ _ => true))
 byref := fun g => cond (Nat.beq g 115) ([0]) ([])
 keep := fun _ => false
 live := fun _ => []
 ren := fun _ => []
 glob := glVal
 nt := 9
 lp := fun _ => none
 xl := fun r => cond (Nat.beq r 0) (some []) (none)
}
theorem loopsVSort : ∀ c, Tryd.f69.body = some c -> LoopsOk Tryd.prog (EVSort) 40 c := by
 intro c hc
 cases hc
 exact trivial
noncomputable def gVSort (m : Nat) (l : List CV) : Option Out :=
 cond (srtOk m l && decide (((m : Nat) : Int) = (m : Int))) (
 let r1 : List CV := vSort l
 some (.ret [] [some ⟨.gen 4 r1, false⟩])) none
theorem gVSort_eq (m : Nat) (l : List CV) : bodyK Tryd.prog (EVSort) 40 false Tryd.f69 [.ref 0 0 m true 4, .cl (.fn (.func 70) [] [])] [⟨.gen 4 l, false⟩] = gVSort m l := by kernel_rfl
end Go.Proofs.YtfkpjbbkdkcdcaaDoorA

namespace Go.Proofs.YtfkpjbbkdkcdcaaDoorA
noncomputable def lpVSet_3s (again : Nat -> (List CV) -> Int -> Int -> (List CV) -> Option Out) (k0 : Option Out) (k1 : Nat -> (List CV) -> Option Out) (v1 : Nat) (v2 : List CV) (v3 : Int) (v4 : Int) (v5 : List CV) : Option Out :=
 cond (decide (v4 < v3)) (
  getK v2 v4 fun e1 =>
  let e2 : CV := (cell1 e1).headD .nili
  let e3 : CV := (cell1 e1).tail.headD .nili
  let e4 : CV := (cell1 e1).tail.tail.headD .nili
  cond (okInt .i64 e2 && (okSli .u8 e3 && (okSlg 3 e4 && true))) (
  let i5 : Int := cvInt e2
  let l6 : List Int := cvSli e3
  let l7 : List CV := cvSlg e4
  cond (isS [.int .i64 i5, .sli .u8 l6, .slg 3 l7]) (
  let r8 : List Int := (ndBytes [.int .i64 i5, .sli .u8 l6, .slg 3 l7]).1
  let r9 : Int := (ndBytes [.int .i64 i5, .sli .u8 l6, .slg 3 l7]).2
  cond (!decide (r9 = 0)) (
   k0)
  (
   idxK v4 v1 fun _ =>
   let l10 : List CV := v5.set (0 + (Int.toNat v4)) (.agg [.int .i64 i5, .sli .u8 l6, .slg 3 l7, .sli .u8 r8])
   let x11 : Int := IntKind.i64.wrap (v4 + 1)
   again v1 v2 v3 x11 l10)) none) none)
 (
  k1 v1 v5)
noncomputable def lpVSet_3 (k0 : Option Out) (k1 : Nat -> (List CV) -> Option Out) : Nat -> Nat -> (List CV) -> Int -> Int -> (List CV) -> Option Out := iterF (fun a => lpVSet_3s a k0 k1) (fun _ _ _ _ _ => none)
noncomputable def lpVSet_13s (again : Nat -> Int -> Int -> Nat -> (List CV) -> (List CV) -> Option Out) (k0 : Nat -> (List CV) -> Option Out) (v1 : Nat) (v2 : Int) (v3 : Int) (v4 : Nat) (v5 : List CV) (v6 : List CV) : Option Out :=
 cond (decide (v3 < v2)) (
  idxK v3 v1 fun _ =>
  Option.bind (v5[(0 + (Int.toNat v3))]?) fun (e4 : CV) =>
  let e5 : CV := (cell1 e4).headD .nili
  let e6 : CV := (cell1 e4).tail.headD .nili
  let e7 : CV := (cell1 e4).tail.tail.headD .nili
  let e8 : CV := (cell1 e4).tail.tail.tail.headD .nili
  cond (okInt .i64 e5 && (okSli .u8 e6 && (okSlg 3 e7 && (okSli .u8 e8 && true)))) (
  let i9 : Int := cvInt e5
  let l10 : List Int := cvSli e6
  let l11 : List CV := cvSlg e7
  let l13 : List CV := v6 ++ ([.agg [.int .i64 i9, .sli .u8 l10, .slg 3 l11]])
  rmK l13.length 56 <|
  let x14 : Int := IntKind.i64.wrap (v3 + 1)
  again v1 v2 x14 l13.length v5 l13) none)
 (
  k0 v4 v6)
noncomputable def lpVSet_13 (k0 : Nat -> (List CV) -> Option Out) : Nat -> Nat -> Int -> Int -> Nat -> (List CV) -> (List CV) -> Option Out := iterF (fun a => lpVSet_13s a k0) (fun _ _ _ _ _ _ => none)
noncomputable def LVSet_3 : St -> (Ex -> St -> Option Out) -> Option Out := fun σ k => match σ with
 | ⟨[(q1, .ptr q2 q3 q4), (q5, .ref q6 q7 v1 true q8), (q9, .cl (.slg q10 v2)), (q11, .cl (.int .i64 v3)), (q12, .cl (.int .i64 v4))], [(q13, ⟨.var [.cl (.int .i64 q14), .nils, .nils], false⟩), (q15, ⟨.gen q16 v5, false⟩)]⟩ => cond (Nat.beq q1 2 && Nat.beq q2 66 && Nat.beq q3 0 && Nat.beq q4 0 && Nat.beq q5 4 && Nat.beq q6 78 && Nat.beq q7 0 && Nat.beq q8 4 && Nat.beq q9 15 && Nat.beq q10 3 && Nat.beq q11 16 && Nat.beq q12 17 && Nat.beq q13 66 && decide (q14 = 0) && Nat.beq q15 78 && Nat.beq q16 4) (shut (lpVSet_3 (k .ret ⟨[(2, .ptr 66 0 0), (3, .cl (.int .i64 1))], [(66, ⟨.var [.cl (.int .i64 0), .nils, .nils], false⟩)]⟩) (fun y1 y2 => k (.exit 0) ⟨[(2, .ptr 66 0 0), (4, .ref 78 0 y1 true 4)], [(66, ⟨.var [.cl (.int .i64 0), .nils, .nils], false⟩), (78, ⟨.gen 4 y2, false⟩)]⟩) FUEL) v1 v2 v3 v4 v5) none
 | _ => none
noncomputable def LVSet_13 : St -> (Ex -> St -> Option Out) -> Option Out := fun σ k => match σ with
 | ⟨[(q1, .ptr q2 q3 q4), (q5, .ptr q6 q7 q8), (q9, .ref q10 q11 v1 true q12), (q13, .cl (.int .i64 v2)), (q14, .cl (.int .i64 v3))], [(q15, ⟨.var [.cl (.int .i64 q16), .nils, .nils], false⟩), (q17, ⟨.var [.cl (.int .i64 q18), .nils, .ref q19 q20 v4 true q21], false⟩), (q22, ⟨.gen q23 v5, false⟩), (q24, ⟨.gen q25 v6, false⟩)]⟩ => cond (Nat.beq q1 2 && Nat.beq q2 66 && Nat.beq q3 0 && Nat.beq q4 0 && Nat.beq q5 9 && Nat.beq q6 73 && Nat.beq q7 0 && Nat.beq q8 0 && Nat.beq q9 40 && Nat.beq q10 78 && Nat.beq q11 0 && Nat.beq q12 4 && Nat.beq q13 41 && Nat.beq q14 42 && Nat.beq q15 66 && decide (q16 = 0) && Nat.beq q17 73 && decide (q18 = 49) && Nat.beq q19 115 && Nat.beq q20 0 && Nat.beq q21 3 && Nat.beq q22 78 && Nat.beq q23 4 && Nat.beq q24 115 && Nat.beq q25 3) (shut (lpVSet_13 (fun y1 y2 => k (.exit 2) ⟨[(2, .ptr 66 0 0), (9, .ptr 73 0 0)], [(66, ⟨.var [.cl (.int .i64 0), .nils, .nils], false⟩), (73, ⟨.var [.cl (.int .i64 49), .nils, .ref 115 0 y1 true 3], false⟩), (115, ⟨.gen 3 y2, false⟩)]⟩) FUEL) v1 v2 v3 v4 v5 v6) none
 | _ => none
noncomputable def EVSet : Env := {
 orc := fun g => cond (Nat.beq g 68) (SDBytes) (cond (Nat.beq g 69) (SVSort) (cond (Nat.beq g 70) (SVCmp) (fun _ _ => Tree.fail)))
 pre := fun g => cond (Nat.beq g 68) (preDBytes) (cond (Nat.beq g 69) (preVSort) (cond (Nat.beq g 70) (preVCmp) (fun _ _ => true)))
 byref := fun g => cond (Nat.beq g 69) ([0]) ([])
 keep := fun _ => false
 live := fun r => cond (Nat.beq r 3) ([2, 4, 15, 16, 17]) (cond (Nat.beq r 13) ([2, 9, 40, 41, 42]) ([]))
 ren := fun _ => []
 vir := fun r => cond (Nat.beq r 13) ([(73, 2, 115, .gen 3 [])]) ([])
 glob := glVal
 nt := 55
 lp := fun r => cond (Nat.beq r 3) (some (LVSet_3)) (cond (Nat.beq r 13) (some (LVSet_13)) (none))
 xl := fun r => cond (Nat.beq r 0) (some [2, 3]) (cond (Nat.beq r 1) (some [2, 4]) (cond (Nat.beq r 3) (some [2, 9]) (none)))
}
noncomputable def blpVSet_3 : Code := (Cd.fst (Cd.fst (Cd.snd (Cd.fst (Cd.snd (Cd.snd (Tryd.f12.body.getD .skip)))))))
noncomputable def blpVSet_13 : Code := (Cd.fst (Cd.fst (Cd.snd (Cd.fst (Cd.snd (Cd.snd (Cd.snd (Cd.snd (Cd.snd (Tryd.f12.body.getD .skip))))))))))
theorem LVSet_3_ok : LpOk Tryd.prog (EVSet) 40 blpVSet_3 3 LVSet_3 := by
 intro σ k r h
 unfold LVSet_3 at h
 split at h
 ·replace h := cond_some h
  obtain ⟨hc, h⟩ := h
  simp only [Bool.and_eq_true, beq_prop, decide_eq_true_eq, Bool.not_eq_true'] at hc
  obtain ⟨⟨⟨⟨⟨⟨⟨⟨⟨⟨⟨⟨⟨⟨⟨rfl, rfl⟩, rfl⟩, rfl⟩, rfl⟩, rfl⟩, rfl⟩, rfl⟩, rfl⟩, rfl⟩, rfl⟩, rfl⟩, rfl⟩, rfl⟩, rfl⟩, rfl⟩ := hc
  rw [shut_eq] at h
  exact ⟨FUEL, iter_ok (F := fun n v1 v2 v3 v4 v5 => iterK n (codeK Tryd.prog (EVSet) 40 blpVSet_3) (head (EVSet) 3) ⟨[(2, .ptr 66 0 0), (4, .ref 78 0 v1 true 4), (15, .cl (.slg 3 v2)), (16, .cl (.int .i64 v3)), (17, .cl (.int .i64 v4))], [(66, ⟨.var [.cl (.int .i64 0), .nils, .nils], false⟩), (78, ⟨.gen 4 v5, false⟩)]⟩ k) (Q := fun f => f _ _ _ _ _ = some r) rfl (fun n => by kernel_rfl) h⟩
 ·cases h
theorem LVSet_13_ok : LpOk Tryd.prog (EVSet) 40 blpVSet_13 13 LVSet_13 := by
 intro σ k r h
 unfold LVSet_13 at h
 split at h
 ·replace h := cond_some h
  obtain ⟨hc, h⟩ := h
  simp only [Bool.and_eq_true, beq_prop, decide_eq_true_eq, Bool.not_eq_true'] at hc
  obtain ⟨⟨⟨⟨⟨⟨⟨⟨⟨⟨⟨⟨⟨⟨⟨⟨⟨⟨⟨⟨⟨⟨⟨⟨rfl, rfl⟩, rfl⟩, rfl⟩, rfl⟩, rfl⟩, rfl⟩, rfl⟩, rfl⟩, rfl⟩, rfl⟩, rfl⟩, rfl⟩, rfl⟩, rfl⟩, rfl⟩, rfl⟩, rfl⟩, rfl⟩, rfl⟩, rfl⟩, rfl⟩, rfl⟩, rfl⟩, rfl⟩ := hc
  rw [shut_eq] at h
  exact ⟨FUEL, iter_ok (F := fun n v1 v2 v3 v4 v5 v6 => iterK n (codeK Tryd.prog (EVSet) 40 blpVSet_13) (head (EVSet) 13) ⟨[(2, .ptr 66 0 0), (9, .ptr 73 0 0), (40, .ref 78 0 v1 true 4), (41, .cl (.int .i64 v2)), (42, .cl (.int .i64 v3))], [(66, ⟨.var [.cl (.int .i64 0), .nils, .nils], false⟩), (73, ⟨.var [.cl (.int .i64 49), .nils, .ref 115 0 v4 true 3], false⟩), (78, ⟨.gen 4 v5, false⟩), (115, ⟨.gen 3 v6, false⟩)]⟩ k) (Q := fun f => f _ _ _ _ _ _ = some r) rfl (fun n => by kernel_rfl) h⟩
 ·cases h
theorem loopsVSet : ∀ c, Tryd.f12.body = some c -> LoopsOk Tryd.prog (EVSet) 40 c := by
 intro c hc
 cases hc
 exact ⟨trivial, ⟨trivial, ⟨⟨trivial, ⟨⟨trivial, ⟨⟨trivial, trivial, jn_none rfl⟩, ⟨⟨trivial, ⟨trivial, ⟨⟨trivial, ⟨⟨trivial, trivial, jn_none rfl⟩, trivial, jn_none rfl⟩, jn_none rfl⟩, trivial, jn_none rfl⟩, jn_none rfl⟩, jn_none rfl⟩, trivial, jn_none rfl⟩, jn_none rfl⟩, jn_none rfl⟩, lp_some rfl (LVSet_3_ok)⟩, jn_none rfl⟩, ⟨trivial, ⟨trivial, ⟨⟨trivial, ⟨⟨trivial, ⟨⟨trivial, trivial, jn_none rfl⟩, ⟨⟨trivial, trivial, jn_none rfl⟩, trivial, jn_none rfl⟩, jn_none rfl⟩, jn_none rfl⟩, lp_some rfl (LVSet_13_ok)⟩, jn_none rfl⟩, ⟨trivial, trivial, jn_none rfl⟩, jn_none rfl⟩, jn_none rfl⟩, jn_none rfl⟩, jn_none rfl⟩, jn_none rfl⟩, jn_none rfl⟩
noncomputable def gVSet (l : List CV) : Option Out :=
 cond (decide ((0 : Int) <= ((l.length : Nat) : Int))) (
 cond (decide (((l.length : Nat) : Int) <= ((l.length : Nat) : Int))) (
 cond (decide (((l.length : Nat) : Int) * 80 <= LIM)) (
 cond (decide (((l.length : Nat) : Int) <= LIM)) (
 shut (lpVSet_3
 (
  some (.ret [.cl (.agg [.int .i64 0, .sli .u8 [], .slg 3 []]), .cl (.int .i64 1)] []))
 (fun (y1 : Nat) (y2 : List CV) =>
  cond (srtOk y1 y2) (
  let r3 : List CV := vSort y2
  shut (lpVSet_13
  (fun (y4 : Nat) (y5 : List CV) =>
   some (.ret [.cl (.agg [.int .i64 49, .sli .u8 [], .slg 3 y5]), .cl (.int .i64 0)] []))
  FUEL) y1 ((y1 : Nat) : Int) 0 0 r3 []) none)
 FUEL) (Int.toNat ((l.length : Nat) : Int)) l ((l.length : Nat) : Int) 0 (List.replicate (Int.toNat ((l.length : Nat) : Int)) (.agg [.int .i64 0, .sli .u8 [], .slg 3 [], .sli .u8 []]))) none) none) none) none
theorem gVSet_eq (l : List CV) : bodyK Tryd.prog (EVSet) 40 false Tryd.f12 [.cl (.slg 3 l)] [] = gVSet l := by kernel_rfl
end Go.Proofs.YtfkpjbbkdkcdcaaDoorA

namespace Go.Proofs.YtfkpjbbkdkcdcaaDoorA
noncomputable def EVAwake : Env := {
 orc := fun g => cond (Nat.beq g 12) (SVSet) (cond (Nat.beq g 14) (SVInt) (cond (Nat.beq g 16) (SRSame) (cond (Nat.beq g 18) (SVIntOf) (cond (Nat.beq g 28) (SR1Same) (cond (Nat.beq g 66) (SVNull) (fun _ _ => Tree.fail))))))
 pre := fun g => cond (Nat.beq g 12) (preVSet) (cond (Nat.beq g 14) (preVInt) (cond (Nat.beq g 16) (preRSame) (cond (Nat.beq g 18) (preVIntOf) (cond (Nat.beq g 28) (preR1Same) (cond (Nat.beq g 66) (preVNull) (fun _ _ => true))))))
 byref := fun _ => []
 keep := fun _ => false
 live := fun _ => []
 ren := fun _ => []
 glob := glVal
 nt := 49
 lp := fun _ => none
 xl := fun r => cond (Nat.beq r 0) (some [0]) (none)
}
theorem loopsVAwake : ∀ c, Tryd.f10.body = some c -> LoopsOk Tryd.prog (EVAwake) 40 c := by
 intro c hc
 cases hc
 exact ⟨trivial, ⟨trivial, ⟨trivial, ⟨trivial, trivial, jn_none rfl⟩, jn_none rfl⟩, jn_none rfl⟩, jn_none rfl⟩
noncomputable def gVAwake  : Option Out :=
 cond (isS [.int .i64 5, .sli .u8 [], .slg 3 []]) (
 let r2 : Int := (vIntOf 5 [] []).2
 cond (stI64 2) (
 let r3 : List Int := vInt 2
 let r4 : List CV := noKids
 cond (stI64 1) (
 let r5 : List Int := vInt 1
 let r6 : List CV := noKids
 cond (setOk ([.agg [.int .i64 2, .sli .u8 r3, .slg 3 r4], .agg [.int .i64 2, .sli .u8 r5, .slg 3 r6]])) (
 let r9 : List CV := (vSet ([.agg [.int .i64 2, .sli .u8 r3, .slg 3 r4], .agg [.int .i64 2, .sli .u8 r5, .slg 3 r6]])).2.1
 let r10 : Int := (vSet ([.agg [.int .i64 2, .sli .u8 r3, .slg 3 r4], .agg [.int .i64 2, .sli .u8 r5, .slg 3 r6]])).2.2
 cond (stI64 128) (
 let r11 : List Int := vInt 128
 cond (lenOk r11) (
 let r13 : Bool := listSame r11 [0, 128]
 cond (r13) (
  cond (stI64 (-1)) (
  let r14 : List Int := vInt (-1)
  cond (lenOk r14) (
  let r16 : Bool := listSame r14 [255]
  cond (r16) (
   cond (decide (r2 = 4)) (
    cond (decide (r10 = 0)) (
     cond (decide (((r9.length : Nat) : Int) = 2)) (
      cond (decide ((0 : Int) < ((r9.length : Nat) : Int))) (
      Option.bind (r9[0]?) fun (e17 : CV) =>
      let e18 : CV := (cell1 e17).headD .nili
      let e19 : CV := (cell1 e17).tail.headD .nili
      let e20 : CV := (cell1 e17).tail.tail.headD .nili
      cond (okInt .i64 e18 && (okSli .u8 e19 && (okSlg 3 e20 && true))) (
      let i21 : Int := cvInt e18
      let l22 : List Int := cvSli e19
      let l23 : List CV := cvSlg e20
      cond (stI64 1) (
      let r24 : List Int := vInt 1
      let r25 : List CV := noKids
      cond (isN [.int .i64 i21, .sli .u8 l22, .slg 3 l23] && isN [.int .i64 2, .sli .u8 r24, .slg 3 r25]) (
      let r26 : Bool := ndSame [.int .i64 i21, .sli .u8 l22, .slg 3 l23] [.int .i64 2, .sli .u8 r24, .slg 3 r25]
      some (.ret [.cl (.bool r26)] [])) none) none) none) none)
     (
      some (.ret [.cl (.bool false)] [])))
    (
     some (.ret [.cl (.bool false)] [])))
   (
    some (.ret [.cl (.bool false)] [])))
  (
   some (.ret [.cl (.bool false)] []))) none) none)
 (
  some (.ret [.cl (.bool false)] []))) none) none) none) none) none) none
theorem gVAwake_eq  : bodyK Tryd.prog (EVAwake) 40 false Tryd.f10 [] [] = gVAwake  := by kernel_rfl
end Go.Proofs.YtfkpjbbkdkcdcaaDoorA

namespace Go.Proofs.YtfkpjbbkdkcdcaaDoorA
noncomputable def EVLTells : Env := {
 orc := fun g => cond (Nat.beq g 10) (SVAwake) (cond (Nat.beq g 17) (SVSmall) (cond (Nat.beq g 18) (SVIntOf) (cond (Nat.beq g 19) (SVRIntOf) (cond (Nat.beq g 20) (SVBytesOf) (cond (Nat.beq g 21) (SVRBytesOf) (cond (Nat.beq g 22) (SVUtf8Of) (cond (Nat.beq g 23) (SVRUtf8Of) (cond (Nat.beq g 24) (SVIdOf) (cond (Nat.beq g 25) (SVRIdOf) (cond (Nat.beq g 26) (SVTimeOf) (cond (Nat.beq g 27) (SVRTimeOf) (cond (Nat.beq g 28) (SR1Same) (cond (Nat.beq g 29) (SR2Same) (fun _ _ => Tree.fail))))))))))))))
 pre := fun g => cond (Nat.beq g 10) (preVAwake) (cond (Nat.beq g 17) (preVSmall) (cond (Nat.beq g 18) (preVIntOf) (cond (Nat.beq g 19) (preVRIntOf) (cond (Nat.beq g 20) (preVBytesOf) (cond (Nat.beq g 21) (preVRBytesOf) (cond (Nat.beq g 22) (preVUtf8Of) (cond (Nat.beq g 23) (preVRUtf8Of) (cond (Nat.beq g 24) (preVIdOf) (cond (Nat.beq g 25) (preVRIdOf) (cond (Nat.beq g 26) (preVTimeOf) (cond (Nat.beq g 27) (preVRTimeOf) (cond (Nat.beq g 28) (preR1Same) (cond (Nat.beq g 29) (preR2Same) (fun _ _ => true))))))))))))))
 byref := fun _ => []
 keep := fun _ => false
 live := fun _ => []
 ren := fun _ => []
 glob := glVal
 nt := 128
 lp := fun _ => none
 xl := fun r => cond (Nat.beq r 0) (some [2]) (none)
}
theorem loopsVLTells : ∀ c, Tryd.f4.body = some c -> LoopsOk Tryd.prog (EVLTells) 40 c := by
 intro c hc
 cases hc
 exact ⟨trivial, ⟨⟨trivial, ⟨⟨trivial, trivial, jn_none rfl⟩, trivial, jn_none rfl⟩, jn_none rfl⟩, ⟨trivial, ⟨trivial, ⟨trivial, ⟨trivial, ⟨trivial, ⟨trivial, ⟨trivial, ⟨trivial, ⟨trivial, ⟨trivial, ⟨trivial, trivial, jn_none rfl⟩, jn_none rfl⟩, jn_none rfl⟩, jn_none rfl⟩, jn_none rfl⟩, jn_none rfl⟩, jn_none rfl⟩, jn_none rfl⟩, jn_none rfl⟩, jn_none rfl⟩, jn_none rfl⟩, jn_none rfl⟩, jn_none rfl⟩
noncomputable def gVLTells (t : Int) (b : List Int) (k : List CV) : Option Out :=
 cond (isT [.int .i64 t, .sli .u8 b, .slg 3 k]) (
 let r1 : Bool := vSmall [.int .i64 t, .sli .u8 b, .slg 3 k]
 cond (!r1) (
  let r2 : Bool := true
  some (.ret [.cl (.bool r2)] []))
 (
  cond (isS [.int .i64 t, .sli .u8 b, .slg 3 k]) (
  let r3 : Int := (vIntOf t b k).1
  let r4 : Int := (vIntOf t b k).2
  cond (isS [.int .i64 t, .sli .u8 b, .slg 3 k]) (
  let r5 : Int := (vIntOf t b k).1
  let r6 : Int := (vIntOf t b k).2
  cond (isS [.int .i64 t, .sli .u8 b, .slg 3 k]) (
  let r7 : List Int := (vBytesOf t b k).1
  let r8 : Int := (vBytesOf t b k).2
  cond (isS [.int .i64 t, .sli .u8 b, .slg 3 k]) (
  let r9 : List Int := (vBytesOf t b k).1
  let r10 : Int := (vBytesOf t b k).2
  cond (isS [.int .i64 t, .sli .u8 b, .slg 3 k]) (
  let r11 : ByteArray := (vUtfOf t b k).1
  let r12 : Int := (vUtfOf t b k).2
  cond (isS [.int .i64 t, .sli .u8 b, .slg 3 k]) (
  let r13 : ByteArray := (vUtfOf t b k).1
  let r14 : Int := (vUtfOf t b k).2
  cond (isS [.int .i64 t, .sli .u8 b, .slg 3 k]) (
  let r15 : List Int := (vIdOf t b k).1
  let r16 : Int := (vIdOf t b k).2
  cond (isS [.int .i64 t, .sli .u8 b, .slg 3 k]) (
  let r17 : List Int := (vIdOf t b k).1
  let r18 : Int := (vIdOf t b k).2
  cond (isS [.int .i64 t, .sli .u8 b, .slg 3 k]) (
  let r19 : Int := (vTimeOf t b k).1
  let r20 : Int := (vTimeOf t b k).2
  cond (isS [.int .i64 t, .sli .u8 b, .slg 3 k]) (
  let r21 : Int := (vTimeOf t b k).1
  let r22 : Int := (vTimeOf t b k).2
  cond (decide (r3 = r5)) (
   cond (decide (r4 = r6)) (
    cond (lenOk r7) (
    let r23 : Bool := listSame r7 r9
    cond (r23) (
     cond (decide (r8 = r10)) (
      cond ((r11.toList == r13.toList)) (
       cond (decide (r12 = r14)) (
        cond (lenOk r15) (
        let r24 : Bool := listSame r15 r17
        cond (r24) (
         cond (decide (r16 = r18)) (
          cond (decide (r19 = r21)) (
           cond (decide (r20 = r22)) (
            let r25 : Bool := true
            some (.ret [.cl (.bool r25)] []))
           (
            some (.ret [.cl (.bool false)] [])))
          (
           some (.ret [.cl (.bool false)] [])))
         (
          some (.ret [.cl (.bool false)] [])))
        (
         some (.ret [.cl (.bool false)] []))) none)
       (
        some (.ret [.cl (.bool false)] [])))
      (
       some (.ret [.cl (.bool false)] [])))
     (
      some (.ret [.cl (.bool false)] [])))
    (
     some (.ret [.cl (.bool false)] []))) none)
   (
    some (.ret [.cl (.bool false)] [])))
  (
   some (.ret [.cl (.bool false)] []))) none) none) none) none) none) none) none) none) none) none)) none
theorem gVLTells_eq (t : Int) (b : List Int) (k : List CV) : bodyK Tryd.prog (EVLTells) 40 false Tryd.f4 [.cl (.agg [.int .i64 t, .sli .u8 b, .slg 3 k])] [] = gVLTells t b k := by kernel_rfl
end Go.Proofs.YtfkpjbbkdkcdcaaDoorA

namespace Go.Proofs.YtfkpjbbkdkcdcaaDoorA
noncomputable def lpONums_0s (l : Nat) (again : (List Int) -> Option Out) (k0 : Int -> Int -> (List Int) -> Int -> Int -> Int -> (List Int) -> Int -> Int -> Int -> Int -> Int -> Int -> Bool -> (List Int) -> Option Out) (k1 : Int -> Int -> (List Int) -> Int -> Int -> Int -> (List Int) -> Int -> Int -> Int -> Int -> Int -> Int -> Bool -> Int -> Bool -> (List Int) -> Option Out) (k2 : (List Int) -> Int -> (List Int) -> Option Out) (v1 : List Int) : Option Out :=
 cond (decide ((0 : Int) < ((v1.length : Nat) : Int))) (
  cond (bytesOk v1) (
  let r1 : Int := (oidNumber v1).1
  let r2 : Int := (oidNumber v1).2
  cond (Nat.beq l l) (
  yldO [.int .u32 r1, .bool (decide ((0 : Int) < r2))] (
   k0 r1 r2 v1 ((v1.length : Nat) : Int) r1 r2 v1 r1 r2 r1 r2 r1 r2 (decide ((0 : Int) < r2)) v1)
  (
   cond (decide (r2 = 0)) (
    k1 r1 r2 v1 ((v1.length : Nat) : Int) r1 r2 v1 r1 r2 r1 r2 r1 r2 (decide ((0 : Int) < r2)) r2 (decide (r2 = 0)) v1)
   (
    cond (decide ((0 : Int) <= r2)) (
    cond (decide (r2 <= ((v1.length : Nat) : Int))) (
    let l3 : List Int := List.drop (Int.toNat r2) v1
    again l3) none) none))) none) none)
 (
  k2 v1 ((v1.length : Nat) : Int) v1)
noncomputable def lpONums_0 (l : Nat) (k0 : Int -> Int -> (List Int) -> Int -> Int -> Int -> (List Int) -> Int -> Int -> Int -> Int -> Int -> Int -> Bool -> (List Int) -> Option Out) (k1 : Int -> Int -> (List Int) -> Int -> Int -> Int -> (List Int) -> Int -> Int -> Int -> Int -> Int -> Int -> Bool -> Int -> Bool -> (List Int) -> Option Out) (k2 : (List Int) -> Int -> (List Int) -> Option Out) : Nat -> (List Int) -> Option Out
 | 0 => fun _ => none
 | n + 1 => lpONums_0s l (lpONums_0 l k0 k1 k2 n) k0 k1 k2
noncomputable def LONums_0 (l : Nat) : St -> (Ex -> St -> Option Out) -> Option Out := fun σ k => match σ with
 | ⟨[(q1, .cl (.fn (.yield q2) [] [])), (q3, .ptr q4 q5 q6)], [(q7, ⟨.var [.cl (.sli .u8 v1)], false⟩)]⟩ => cond (Nat.beq q1 0 && Nat.beq q3 1 && Nat.beq q4 0 && Nat.beq q5 0 && Nat.beq q6 0 && Nat.beq q7 0 && Nat.beq l q2) (shut (lpONums_0 l (fun y1 y2 y3 y4 y5 y6 y7 y8 y9 y10 y11 y12 y13 y14 y15 => k .ret ⟨[(0, .cl (.fn (.yield l) [] [])), (1, .ptr 0 0 0), (3, .cl (.int .u32 y1)), (4, .cl (.int .i64 y2)), (5, .cl (.sli .u8 y3)), (6, .cl (.int .i64 y4)), (7, .cl (.bool true)), (8, .tup [.cl (.int .u32 y5), .cl (.int .i64 y6)]), (9, .cl (.sli .u8 y7)), (10, .tup [.cl (.int .u32 y8), .cl (.int .i64 y9)]), (11, .cl (.int .u32 y10)), (12, .cl (.int .i64 y11)), (13, .cl (.fn (.yield l) [] [])), (14, .cl (.int .u32 y12)), (15, .cl (.int .i64 y13)), (16, .cl (.bool y14)), (17, .cl (.bool false)), (18, .cl (.bool true)), (19, .cl (.bool true)), (20, .tup []), (21, .tup []), (22, .cl (.bool true))], [(0, ⟨.var [.cl (.sli .u8 y15)], false⟩)]⟩) (fun y1 y2 y3 y4 y5 y6 y7 y8 y9 y10 y11 y12 y13 y14 y15 y16 y17 => k .ret ⟨[(0, .cl (.fn (.yield l) [] [])), (1, .ptr 0 0 0), (3, .cl (.int .u32 y1)), (4, .cl (.int .i64 y2)), (5, .cl (.sli .u8 y3)), (6, .cl (.int .i64 y4)), (7, .cl (.bool true)), (8, .tup [.cl (.int .u32 y5), .cl (.int .i64 y6)]), (9, .cl (.sli .u8 y7)), (10, .tup [.cl (.int .u32 y8), .cl (.int .i64 y9)]), (11, .cl (.int .u32 y10)), (12, .cl (.int .i64 y11)), (13, .cl (.fn (.yield l) [] [])), (14, .cl (.int .u32 y12)), (15, .cl (.int .i64 y13)), (16, .cl (.bool y14)), (17, .cl (.bool true)), (18, .cl (.bool false)), (19, .cl (.bool false)), (20, .cl (.int .i64 y15)), (21, .cl (.bool y16)), (22, .cl (.bool true))], [(0, ⟨.var [.cl (.sli .u8 y17)], false⟩)]⟩) (fun y1 y2 y3 => k (.exit 0) ⟨[(0, .cl (.fn (.yield l) [] [])), (1, .ptr 0 0 0), (5, .cl (.sli .u8 y1)), (6, .cl (.int .i64 y2)), (7, .cl (.bool false))], [(0, ⟨.var [.cl (.sli .u8 y3)], false⟩)]⟩) FUEL) v1) none
 | _ => none
noncomputable def EONums (l : Nat) : Env := {
 orc := fun g => cond (Nat.beq g 155) (SONumber) (fun _ _ => Tree.fail)
 pre := fun g => cond (Nat.beq g 155) (preONumber) (fun _ _ => true)
 byref := fun _ => []
 keep := fun _ => false
 live := fun r => cond (Nat.beq r 0) ([0, 1]) ([])
 ren := fun _ => []
 glob := glVal
 nt := 26
 lp := fun r => cond (Nat.beq r 0) (some (LONums_0 l)) (none)
 rg := false
 yn := l
 yl := fun r => cond (Nat.beq r 2) (some 4) (none)
}
noncomputable def blpONums_0 : Code := (Cd.fst (Cd.fst (Tryd.f154.body.getD .skip)))
theorem lpONums_0_step (l : Nat) (k : Ex -> St -> Option Out) (n : Nat) (v1 : List Int) : iterK (n + 1) (codeK Tryd.prog (EONums l) 40 blpONums_0) (head (EONums l) 0) ⟨[(0, .cl (.fn (.yield l) [] [])), (1, .ptr 0 0 0)], [(0, ⟨.var [.cl (.sli .u8 v1)], false⟩)]⟩ k = lpONums_0s l (fun v1 => iterK n (codeK Tryd.prog (EONums l) 40 blpONums_0) (head (EONums l) 0) ⟨[(0, .cl (.fn (.yield l) [] [])), (1, .ptr 0 0 0)], [(0, ⟨.var [.cl (.sli .u8 v1)], false⟩)]⟩ k) (fun y1 y2 y3 y4 y5 y6 y7 y8 y9 y10 y11 y12 y13 y14 y15 => k .ret ⟨[(0, .cl (.fn (.yield l) [] [])), (1, .ptr 0 0 0), (3, .cl (.int .u32 y1)), (4, .cl (.int .i64 y2)), (5, .cl (.sli .u8 y3)), (6, .cl (.int .i64 y4)), (7, .cl (.bool true)), (8, .tup [.cl (.int .u32 y5), .cl (.int .i64 y6)]), (9, .cl (.sli .u8 y7)), (10, .tup [.cl (.int .u32 y8), .cl (.int .i64 y9)]), (11, .cl (.int .u32 y10)), (12, .cl (.int .i64 y11)), (13, .cl (.fn (.yield l) [] [])), (14, .cl (.int .u32 y12)), (15, .cl (.int .i64 y13)), (16, .cl (.bool y14)), (17, .cl (.bool false)), (18, .cl (.bool true)), (19, .cl (.bool true)), (20, .tup []), (21, .tup []), (22, .cl (.bool true))], [(0, ⟨.var [.cl (.sli .u8 y15)], false⟩)]⟩) (fun y1 y2 y3 y4 y5 y6 y7 y8 y9 y10 y11 y12 y13 y14 y15 y16 y17 => k .ret ⟨[(0, .cl (.fn (.yield l) [] [])), (1, .ptr 0 0 0), (3, .cl (.int .u32 y1)), (4, .cl (.int .i64 y2)), (5, .cl (.sli .u8 y3)), (6, .cl (.int .i64 y4)), (7, .cl (.bool true)), (8, .tup [.cl (.int .u32 y5), .cl (.int .i64 y6)]), (9, .cl (.sli .u8 y7)), (10, .tup [.cl (.int .u32 y8), .cl (.int .i64 y9)]), (11, .cl (.int .u32 y10)), (12, .cl (.int .i64 y11)), (13, .cl (.fn (.yield l) [] [])), (14, .cl (.int .u32 y12)), (15, .cl (.int .i64 y13)), (16, .cl (.bool y14)), (17, .cl (.bool true)), (18, .cl (.bool false)), (19, .cl (.bool false)), (20, .cl (.int .i64 y15)), (21, .cl (.bool y16)), (22, .cl (.bool true))], [(0, ⟨.var [.cl (.sli .u8 y17)], false⟩)]⟩) (fun y1 y2 y3 => k (.exit 0) ⟨[(0, .cl (.fn (.yield l) [] [])), (1, .ptr 0 0 0), (5, .cl (.sli .u8 y1)), (6, .cl (.int .i64 y2)), (7, .cl (.bool false))], [(0, ⟨.var [.cl (.sli .u8 y3)], false⟩)]⟩) v1 := by kernel_rfl
theorem lpONums_0_eq (l : Nat) (k : Ex -> St -> Option Out) : ∀ (n : Nat), ∀ (v1 : List Int), iterK n (codeK Tryd.prog (EONums l) 40 blpONums_0) (head (EONums l) 0) ⟨[(0, .cl (.fn (.yield l) [] [])), (1, .ptr 0 0 0)], [(0, ⟨.var [.cl (.sli .u8 v1)], false⟩)]⟩ k = lpONums_0 l (fun y1 y2 y3 y4 y5 y6 y7 y8 y9 y10 y11 y12 y13 y14 y15 => k .ret ⟨[(0, .cl (.fn (.yield l) [] [])), (1, .ptr 0 0 0), (3, .cl (.int .u32 y1)), (4, .cl (.int .i64 y2)), (5, .cl (.sli .u8 y3)), (6, .cl (.int .i64 y4)), (7, .cl (.bool true)), (8, .tup [.cl (.int .u32 y5), .cl (.int .i64 y6)]), (9, .cl (.sli .u8 y7)), (10, .tup [.cl (.int .u32 y8), .cl (.int .i64 y9)]), (11, .cl (.int .u32 y10)), (12, .cl (.int .i64 y11)), (13, .cl (.fn (.yield l) [] [])), (14, .cl (.int .u32 y12)), (15, .cl (.int .i64 y13)), (16, .cl (.bool y14)), (17, .cl (.bool false)), (18, .cl (.bool true)), (19, .cl (.bool true)), (20, .tup []), (21, .tup []), (22, .cl (.bool true))], [(0, ⟨.var [.cl (.sli .u8 y15)], false⟩)]⟩) (fun y1 y2 y3 y4 y5 y6 y7 y8 y9 y10 y11 y12 y13 y14 y15 y16 y17 => k .ret ⟨[(0, .cl (.fn (.yield l) [] [])), (1, .ptr 0 0 0), (3, .cl (.int .u32 y1)), (4, .cl (.int .i64 y2)), (5, .cl (.sli .u8 y3)), (6, .cl (.int .i64 y4)), (7, .cl (.bool true)), (8, .tup [.cl (.int .u32 y5), .cl (.int .i64 y6)]), (9, .cl (.sli .u8 y7)), (10, .tup [.cl (.int .u32 y8), .cl (.int .i64 y9)]), (11, .cl (.int .u32 y10)), (12, .cl (.int .i64 y11)), (13, .cl (.fn (.yield l) [] [])), (14, .cl (.int .u32 y12)), (15, .cl (.int .i64 y13)), (16, .cl (.bool y14)), (17, .cl (.bool true)), (18, .cl (.bool false)), (19, .cl (.bool false)), (20, .cl (.int .i64 y15)), (21, .cl (.bool y16)), (22, .cl (.bool true))], [(0, ⟨.var [.cl (.sli .u8 y17)], false⟩)]⟩) (fun y1 y2 y3 => k (.exit 0) ⟨[(0, .cl (.fn (.yield l) [] [])), (1, .ptr 0 0 0), (5, .cl (.sli .u8 y1)), (6, .cl (.int .i64 y2)), (7, .cl (.bool false))], [(0, ⟨.var [.cl (.sli .u8 y3)], false⟩)]⟩) n v1
 | 0 => by intros; rfl
 | n + 1 => by
  intros
  rw [lpONums_0_step]
  have ih := lpONums_0_eq l k n
  simp only [lpONums_0, ih]
theorem LONums_0_ok (l : Nat) : ∀ (σ : St) (k : Ex -> St -> Option Out) (r : Out), LONums_0 l σ k = some r -> ∃ n, iterK n (codeK Tryd.prog (EONums l) 40 blpONums_0) (head (EONums l) 0) σ k = some r := by
 intro σ k r h
 unfold LONums_0 at h
 split at h
 ·replace h := cond_some h
  obtain ⟨hc, h⟩ := h
  simp only [Bool.and_eq_true, beq_prop, decide_eq_true_eq, Bool.not_eq_true'] at hc
  obtain ⟨⟨⟨⟨⟨⟨rfl, rfl⟩, rfl⟩, rfl⟩, rfl⟩, rfl⟩, rfl⟩ := hc
  rw [shut_eq] at h
  exact ⟨FUEL, (lpONums_0_eq l k FUEL _ ).trans h⟩
 ·cases h
theorem loopsONums (l : Nat) : ∀ c, Tryd.f154.body = some c -> LoopsOk Tryd.prog (EONums l) 40 c := by
 intro c hc
 cases hc
 exact ⟨⟨⟨trivial, ⟨trivial, trivial, jn_none rfl⟩, jn_none rfl⟩, ⟨trivial, ⟨⟨trivial, ⟨trivial, trivial, jn_none rfl⟩, jn_none rfl⟩, trivial, jn_none rfl⟩, jn_none rfl⟩, jn_none rfl⟩, lp_some rfl (LONums_0_ok l)⟩
noncomputable def gONums (l : Nat) (b : List Int) : Option Out :=
 cond (Nat.beq l l) (
 shut (lpONums_0 l
 (fun (y1 : Int) (y2 : Int) (y3 : List Int) (y4 : Int) (y5 : Int) (y6 : Int) (y7 : List Int) (y8 : Int) (y9 : Int) (y10 : Int) (y11 : Int) (y12 : Int) (y13 : Int) (y14 : Bool) (y15 : List Int) =>
  some (.ret [] [some ⟨.var [.cl (.sli .u8 y15)], false⟩]))
 (fun (y16 : Int) (y17 : Int) (y18 : List Int) (y19 : Int) (y20 : Int) (y21 : Int) (y22 : List Int) (y23 : Int) (y24 : Int) (y25 : Int) (y26 : Int) (y27 : Int) (y28 : Int) (y29 : Bool) (y30 : Int) (y31 : Bool) (y32 : List Int) =>
  some (.ret [] [some ⟨.var [.cl (.sli .u8 y32)], false⟩]))
 (fun (y33 : List Int) (y34 : Int) (y35 : List Int) =>
  some (.ret [] [some ⟨.var [.cl (.sli .u8 y35)], false⟩]))
 FUEL) b) none
theorem gONums_eq (l : Nat) (b : List Int) : bodyK Tryd.prog (EONums l) 40 false Tryd.f154 [.cl (.fn (.yield l) [] []), .ptr 0 0 0] [⟨.var [.cl (.sli .u8 b)], false⟩] = gONums l b := by kernel_rfl
end Go.Proofs.YtfkpjbbkdkcdcaaDoorA
