/-
  What the reading of apostille/oid.Fit comes to, printed by a program. Conditions: none.
-/
import Derived.Test.YtgkedgpgfmibhaaDoorT1
set_option linter.unusedVariables false
set_option linter.unusedSimpArgs false
set_option maxRecDepth 100000
namespace Go.Proofs.YtgkedgpgfmibhaaDoorA
noncomputable def EOFit : Env := {
  orc := fun _ => fun _ _ => Tree.fail
  pre := fun _ => fun _ _ => true
  byref := fun _ => []
  keep := fun _ => false
  live := fun _ => []
  ren := fun _ => []
  glob := glOid
  nt := 31
  lp := fun _ => none
  xl := fun r => cond (Nat.beq r 0) (some [2]) (none)
}
theorem loopsOFit : ∀ c, Tryd.f10.body = some c → LoopsOk Tryd.prog (EOFit) 40 c := by
  intro c hc
  cases hc
  exact ⟨trivial, ⟨⟨trivial, ⟨⟨trivial, trivial, jn_none rfl⟩, ⟨trivial, ⟨⟨trivial, trivial, jn_none rfl⟩, trivial, jn_none rfl⟩, jn_none rfl⟩, jn_none rfl⟩, jn_none rfl⟩, ⟨trivial, trivial, jn_none rfl⟩, jn_none rfl⟩, jn_none rfl⟩
noncomputable def gOFit (o : List Int) : Option Out :=
  cond (decide (((o.length : Nat) : Int) < 2)) (
    some (.ret [.cl (.bool false)] []))
  (
    cond (decide ((20 : Int) < ((o.length : Nat) : Int))) (
      some (.ret [.cl (.bool false)] []))
    (
      cond (decide ((0 : Int) < ((o.length : Nat) : Int))) (
      Option.bind (o[0]?) fun (e1 : Int) =>
      cond (decide ((2 : Int) < e1)) (
        some (.ret [.cl (.bool false)] []))
      (
        cond (decide ((0 : Int) < ((o.length : Nat) : Int))) (
        Option.bind (o[0]?) fun (e2 : Int) =>
        cond (decide (e2 < 2)) (
          cond (decide ((1 : Int) < ((o.length : Nat) : Int))) (
          Option.bind (o[1]?) fun (e3 : Int) =>
          some (.ret [.cl (.bool (decide (e3 < 40)))] [])) none)
        (
          cond (decide ((1 : Int) < ((o.length : Nat) : Int))) (
          Option.bind (o[1]?) fun (e4 : Int) =>
          some (.ret [.cl (.bool (decide (e4 ≤ 4294967215)))] [])) none)) none)) none))
theorem gOFit_eq (o : List Int) : bodyK Tryd.prog (EOFit) 40 false Tryd.f10 [.cl (.sli .u32 o)] [] = gOFit o := by kernel_rfl
end Go.Proofs.YtgkedgpgfmibhaaDoorA

namespace Go.Proofs.YtgkedgpgfmibhaaDoorA
noncomputable def ER2Fit : Env := {
  orc := fun _ => fun _ _ => Tree.fail
  pre := fun _ => fun _ _ => true
  byref := fun _ => []
  keep := fun _ => false
  live := fun _ => []
  ren := fun _ => []
  glob := glOid
  nt := 39
  lp := fun _ => none
  xl := fun r => cond (Nat.beq r 0) (some [2]) (none)
}
theorem loopsR2Fit : ∀ c, Tryd.f11.body = some c → LoopsOk Tryd.prog (ER2Fit) 40 c := by
  intro c hc
  cases hc
  exact ⟨trivial, ⟨⟨trivial, ⟨⟨trivial, trivial, jn_none rfl⟩, trivial, jn_none rfl⟩, jn_none rfl⟩, ⟨trivial, trivial, jn_none rfl⟩, jn_none rfl⟩, jn_none rfl⟩
noncomputable def gR2Fit (o : List Int) : Option Out :=
  cond (decide (((o.length : Nat) : Int) < 2)) (
    some (.ret [.cl (.bool false)] []))
  (
    cond (decide ((20 : Int) < ((o.length : Nat) : Int))) (
      some (.ret [.cl (.bool false)] []))
    (
      cond (decide ((0 : Int) < ((o.length : Nat) : Int))) (
      Option.bind (o[0]?) fun (e1 : Int) =>
      cond (decide ((2 : Int) < e1)) (
        some (.ret [.cl (.bool false)] []))
      (
        cond (decide ((0 : Int) < ((o.length : Nat) : Int))) (
        Option.bind (o[0]?) fun (e2 : Int) =>
        cond (decide (e2 < 2)) (
          cond (decide ((1 : Int) < ((o.length : Nat) : Int))) (
          Option.bind (o[1]?) fun (e3 : Int) =>
          cond (decide (e3 < 40)) (
            some (.ret [.cl (.bool true)] []))
          (
            cond (decide ((0 : Int) < ((o.length : Nat) : Int))) (
            Option.bind (o[0]?) fun (e4 : Int) =>
            cond (decide (e4 = 2)) (
              cond (decide ((1 : Int) < ((o.length : Nat) : Int))) (
              Option.bind (o[1]?) fun (e5 : Int) =>
              some (.ret [.cl (.bool (decide (e5 ≤ 4294967215)))] [])) none)
            (
              some (.ret [.cl (.bool false)] []))) none)) none)
        (
          cond (decide ((0 : Int) < ((o.length : Nat) : Int))) (
          Option.bind (o[0]?) fun (e6 : Int) =>
          cond (decide (e6 = 2)) (
            cond (decide ((1 : Int) < ((o.length : Nat) : Int))) (
            Option.bind (o[1]?) fun (e7 : Int) =>
            some (.ret [.cl (.bool (decide (e7 ≤ 4294967215)))] [])) none)
          (
            some (.ret [.cl (.bool false)] []))) none)) none)) none))
theorem gR2Fit_eq (o : List Int) : bodyK Tryd.prog (ER2Fit) 40 false Tryd.f11 [.cl (.sli .u32 o)] [] = gR2Fit o := by kernel_rfl
end Go.Proofs.YtgkedgpgfmibhaaDoorA

namespace Go.Proofs.YtgkedgpgfmibhaaDoorA
noncomputable def ER2First : Env := {
  orc := fun _ => fun _ _ => Tree.fail
  pre := fun _ => fun _ _ => true
  byref := fun _ => []
  keep := fun _ => false
  live := fun _ => []
  ren := fun _ => []
  glob := glOid
  nt := 16
  lp := fun _ => none
  xl := fun r => cond (Nat.beq r 0) (some [2]) (none)
}
theorem loopsR2First : ∀ c, Tryd.f22.body = some c → LoopsOk Tryd.prog (ER2First) 40 c := by
  intro c hc
  cases hc
  exact ⟨trivial, ⟨⟨trivial, ⟨⟨trivial, trivial, jn_none rfl⟩, trivial, jn_none rfl⟩, jn_none rfl⟩, ⟨trivial, trivial, jn_none rfl⟩, jn_none rfl⟩, jn_none rfl⟩
noncomputable def gR2First (n : Int) : Option Out :=
  cond (decide (n < 80)) (
    let x1 : Int := IntKind.u64.wrap (Int.tdiv n 40)
    let x2 : Int := IntKind.u32.wrap x1
    let x3 : Int := Int.tmod n 40
    let x4 : Int := IntKind.u32.wrap x3
    some (.ret [.cl (.sli .u32 [x2, x4])] []))
  (
    let x5 : Int := IntKind.u64.wrap (n - 80)
    let x6 : Int := IntKind.u32.wrap x5
    some (.ret [.cl (.sli .u32 [2, x6])] []))
theorem gR2First_eq (n : Int) : bodyK Tryd.prog (ER2First) 40 false Tryd.f22 [.cl (.int .u64 n)] [] = gR2First n := by kernel_rfl
end Go.Proofs.YtgkedgpgfmibhaaDoorA

namespace Go.Proofs.YtgkedgpgfmibhaaDoorA
noncomputable def lpONumber_3s (again : Int → (List Int) → Int → Int → Option Out) (k0 : Option Out) (k1 : Int → Int → Option Out) (k2 : Option Out) (v1 : Int) (v2 : List Int) (v3 : Int) (v4 : Int) : Option Out :=
  cond (decide (v4 < v3)) (
    getK v2 v4 fun e1 =>
    cond (decide (v4 = 0)) (
      cond (decide (e1 = 128)) (
        k0)
      (
        cond (decide ((33554431 : Int) < v1)) (
          k0)
        (
          let x2 : Int := IntKind.u64.wrap (v1 * 2 ^ 7)
          let x3 : Int := IntKind.u8.wrap ((BitVec.ofInt 8 e1 &&& ~~~ BitVec.ofInt 8 128).toNat)
          let x4 : Int := IntKind.u64.wrap x3
          let x5 : Int := IntKind.u64.wrap ((BitVec.ofInt 64 x2 ||| BitVec.ofInt 64 x4).toNat)
          let x6 : Int := IntKind.u8.wrap ((BitVec.ofInt 8 e1 &&& BitVec.ofInt 8 128).toNat)
          cond (decide (x6 = 0)) (
            let x7 : Int := IntKind.u32.wrap x5
            let x8 : Int := IntKind.i64.wrap (v4 + 1)
            k1 x7 x8)
          (
            let x9 : Int := IntKind.i64.wrap (v4 + 1)
            again x5 v2 v3 x9))))
    (
      cond (decide ((33554431 : Int) < v1)) (
        k0)
      (
        let x10 : Int := IntKind.u64.wrap (v1 * 2 ^ 7)
        let x11 : Int := IntKind.u8.wrap ((BitVec.ofInt 8 e1 &&& ~~~ BitVec.ofInt 8 128).toNat)
        let x12 : Int := IntKind.u64.wrap x11
        let x13 : Int := IntKind.u64.wrap ((BitVec.ofInt 64 x10 ||| BitVec.ofInt 64 x12).toNat)
        let x14 : Int := IntKind.u8.wrap ((BitVec.ofInt 8 e1 &&& BitVec.ofInt 8 128).toNat)
        cond (decide (x14 = 0)) (
          let x15 : Int := IntKind.u32.wrap x13
          let x16 : Int := IntKind.i64.wrap (v4 + 1)
          k1 x15 x16)
        (
          let x17 : Int := IntKind.i64.wrap (v4 + 1)
          again x13 v2 v3 x17))))
  (
    k2)
noncomputable def lpONumber_3 (k0 : Option Out) (k1 : Int → Int → Option Out) (k2 : Option Out) : Nat → Int → (List Int) → Int → Int → Option Out := iterF (fun a => lpONumber_3s a k0 k1 k2) (fun _ _ _ _ => none)
noncomputable def LONumber_3 : St → (Ex → St → Option Out) → Option Out := fun σ k => match σ with
  | ⟨[(q1, .cl (.int .u64 v1)), (q2, .cl (.sli .u8 v2)), (q3, .cl (.int .i64 v3)), (q4, .cl (.int .i64 v4))], []⟩ => cond (Nat.beq q1 4 && Nat.beq q2 7 && Nat.beq q3 8 && Nat.beq q4 9) (shut (lpONumber_3 (k .ret ⟨[(2, .cl (.int .u32 0)), (3, .cl (.int .i64 0))], []⟩) (fun y1 y2 => k .ret ⟨[(2, .cl (.int .u32 y1)), (3, .cl (.int .i64 y2))], []⟩) (k (.exit 0) ⟨[], []⟩) FUEL) v1 v2 v3 v4) none
  | _ => none
noncomputable def EONumber : Env := {
  orc := fun _ => fun _ _ => Tree.fail
  pre := fun _ => fun _ _ => true
  byref := fun _ => []
  keep := fun _ => false
  live := fun r => cond (Nat.beq r 3) ([4, 7, 8, 9]) ([])
  ren := fun _ => []
  glob := glOid
  nt := 38
  lp := fun r => cond (Nat.beq r 3) (some (LONumber_3)) (none)
  xl := fun r => cond (Nat.beq r 0) (some [2, 3]) (cond (Nat.beq r 1) (some []) (none))
}
noncomputable def blpONumber_3 : Code := (Cd.fst (Cd.fst (Cd.snd (Cd.fst (Cd.snd (Cd.snd (Tryd.f34.body.getD .skip)))))))
theorem LONumber_3_ok : LpOk Tryd.prog (EONumber) 40 blpONumber_3 3 LONumber_3 := by
  intro σ k r h
  unfold LONumber_3 at h
  split at h
  · replace h := cond_some h
    obtain ⟨hc, h⟩ := h
    simp only [Bool.and_eq_true, beq_prop, decide_eq_true_eq, Bool.not_eq_true'] at hc
    obtain ⟨⟨⟨rfl, rfl⟩, rfl⟩, rfl⟩ := hc
    rw [shut_eq] at h
    exact ⟨FUEL, iter_ok (F := fun n v1 v2 v3 v4 => iterK n (codeK Tryd.prog (EONumber) 40 blpONumber_3) (head (EONumber) 3) ⟨[(4, .cl (.int .u64 v1)), (7, .cl (.sli .u8 v2)), (8, .cl (.int .i64 v3)), (9, .cl (.int .i64 v4))], []⟩ k) (Q := fun f => f _ _ _ _ = some r) rfl (fun n => by kernel_rfl) h⟩
  · cases h
theorem loopsONumber : ∀ c, Tryd.f34.body = some c → LoopsOk Tryd.prog (EONumber) 40 c := by
  intro c hc
  cases hc
  exact ⟨trivial, ⟨trivial, ⟨⟨trivial, ⟨⟨trivial, ⟨⟨trivial, trivial, jn_none rfl⟩, ⟨⟨trivial, ⟨⟨trivial, ⟨⟨trivial, trivial, jn_none rfl⟩, trivial, jn_none rfl⟩, jn_none rfl⟩, ⟨trivial, ⟨trivial, ⟨⟨trivial, trivial, jn_none rfl⟩, trivial, jn_none rfl⟩, jn_none rfl⟩, jn_none rfl⟩, jn_none rfl⟩, jn_none rfl⟩, trivial, jn_none rfl⟩, jn_none rfl⟩, jn_none rfl⟩, lp_some rfl (LONumber_3_ok)⟩, jn_none rfl⟩, ⟨trivial, trivial, jn_none rfl⟩, jn_none rfl⟩, jn_none rfl⟩, jn_none rfl⟩
noncomputable def gONumber (b : List Int) : Option Out :=
  shut (lpONumber_3
  (
    some (.ret [.cl (.int .u32 0), .cl (.int .i64 0)] []))
  (fun (y1 : Int) (y2 : Int) =>
    some (.ret [.cl (.int .u32 y1), .cl (.int .i64 y2)] []))
  (
    some (.ret [.cl (.int .u32 0), .cl (.int .i64 0)] []))
  FUEL) 0 b ((b.length : Nat) : Int) 0
theorem gONumber_eq (b : List Int) : bodyK Tryd.prog (EONumber) 40 false Tryd.f34 [.cl (.sli .u8 b)] [] = gONumber b := by kernel_rfl
end Go.Proofs.YtgkedgpgfmibhaaDoorA

namespace Go.Proofs.YtgkedgpgfmibhaaDoorA
noncomputable def EONumbers : Env := {
  orc := fun _ => fun _ _ => Tree.fail
  pre := fun _ => fun _ _ => true
  byref := fun _ => []
  keep := fun _ => false
  live := fun _ => []
  ren := fun _ => []
  glob := glOid
  nt := 4
  lp := fun _ => none
  xl := fun r => cond (Nat.beq r 0) (some [2]) (none)
}
theorem loopsONumbers : ∀ c, Tryd.f21.body = some c → LoopsOk Tryd.prog (EONumbers) 40 c := by
  intro c hc
  cases hc
  exact ⟨trivial, ⟨trivial, trivial, jn_none rfl⟩, jn_none rfl⟩
noncomputable def gONumbers (b : List Int) : Option Out :=
  some (.ret [.fn (.func 33) [] [.ptr 0 0 0]] [some ⟨.var [.cl (.sli .u8 b)], false⟩])
theorem gONumbers_eq (b : List Int) : bodyK Tryd.prog (EONumbers) 40 true Tryd.f21 [.cl (.sli .u8 b)] [] = gONumbers b := by kernel_rfl
end Go.Proofs.YtgkedgpgfmibhaaDoorA

namespace Go.Proofs.YtgkedgpgfmibhaaDoorA
noncomputable def rlOParse_3s (again : Nat → (List Int) → Option Out) (k0 : Nat → Option Out) (k1 : Nat → (List Int) → Option Out) (e1 : Int) (e2 : Bool) (v1 : Nat) (v2 : List Int) : Option Out :=
  cond (!e2) (
    k0 v1)
  (
    cond (decide ((20 : Int) < ((v1 : Nat) : Int))) (
      k0 v1)
    (
      cond (decide (((v1 : Nat) : Int) = 0)) (
        let x1 : Int := IntKind.u32.wrap (Int.tdiv e1 40)
        let x2 : Int := cond (decide ((2 : Int) < x1)) 2 x1
        let l3 : List Int := v2 ++ [x2]
        rmK l3.length 4 <|
        let x4 : Int := IntKind.u32.wrap ((40 : Int) * x2)
        let x5 : Int := IntKind.u32.wrap (e1 - x4)
        let l6 : List Int := l3 ++ [x5]
        rmK l6.length 4 <|
        again l6.length l6)
      (
        let l7 : List Int := v2 ++ [e1]
        rmK l7.length 4 <|
        again l7.length l7)))
noncomputable def rlOParse_3 (k0 : Nat → Option Out) (k1 : Nat → (List Int) → Option Out) : List (List CV) → Nat → (List Int) → Option Out
  | [] => fun v1 v2 => k1 v1 v2
  | x :: r => rlOParse_3s (rlOParse_3 k0 k1 r) k0 k1 (cvInt (x.getD 0 .nili)) (cvBool (x.getD 1 .nili))
noncomputable def ROParse_3 : St → List (List CV) → (Ex → St → Option Out) → Option Out := fun σ xs k => match σ with
  | ⟨[(q1, .ptr q2 q3 q4), (q5, .ptr q6 q7 q8), (q9, .ptr q10 q11 q12)], [(q13, ⟨.var [.nils], false⟩), (q14, ⟨.var [.cl (.int .i64 q15)], false⟩), (q16, ⟨.var [.ref q17 q18 v1 true q19], false⟩), (q20, ⟨.ints .u32 v2, false⟩)]⟩ => cond (List.all xs okONums) (cond (Nat.beq q1 2 && Nat.beq q2 0 && Nat.beq q3 0 && Nat.beq q4 0 && Nat.beq q5 3 && Nat.beq q6 1 && Nat.beq q7 0 && Nat.beq q8 0 && Nat.beq q9 4 && Nat.beq q10 2 && Nat.beq q11 0 && Nat.beq q12 0 && Nat.beq q13 0 && Nat.beq q14 1 && decide (q15 = 0) && Nat.beq q16 2 && Nat.beq q17 100 && Nat.beq q18 0 && Nat.beq q19 1 && Nat.beq q20 100) (shut (rlOParse_3 (fun y1 => k .ret ⟨[(2, .ptr 0 0 0), (3, .ptr 1 0 0), (4, .ptr 2 0 0)], [(0, ⟨.var [.nils], false⟩), (1, ⟨.var [.cl (.int .i64 5)], false⟩), (2, ⟨.var [.ref 100 0 y1 true 1], false⟩)]⟩) (fun y1 y2 => k .normal ⟨[(2, .ptr 0 0 0), (3, .ptr 1 0 0), (4, .ptr 2 0 0)], [(0, ⟨.var [.nils], false⟩), (1, ⟨.var [.cl (.int .i64 0)], false⟩), (2, ⟨.var [.ref 100 0 y1 true 1], false⟩), (100, ⟨.ints .u32 y2, false⟩)]⟩)) xs v1 v2) none) none
  | _ => none
noncomputable def EOParse : Env := {
  orc := fun g => cond (Nat.beq g 10) (SOFit) (cond (Nat.beq g 21) (SONumbers) (fun _ _ => Tree.fail))
  pre := fun g => cond (Nat.beq g 10) (preOFit) (cond (Nat.beq g 21) (preONumbers) (cond (Nat.beq g 33) (preONums) (fun _ _ => true)))
  byref := fun _ => []
  keep := fun g => cond (Nat.beq g 21) (true) (false)
  live := fun r => cond (Nat.beq r 3) ([2, 3, 4]) ([])
  ren := fun _ => []
  vir := fun r => cond (Nat.beq r 3) ([(2, 0, 100, .ints .u32 [])]) ([])
  glob := glOid
  nt := 41
  lp := fun _ => none
  xl := fun r => cond (Nat.beq r 0) (some [2, 3]) (none)
  lowr := fun r => cond (Nat.beq r 3) ([(66, 0), (67, 1), (68, 2)]) ([])
  sq := fun g => cond (Nat.beq g 33) (QONums) (fun _ _ => none)
  rf := fun r => cond (Nat.beq r 3) (some (ROParse_3)) (none)
}
noncomputable def arlOParse_3 : Code := Cd.fst (Cd.fst (Cd.snd (Cd.fst (Cd.snd (Cd.snd (Tryd.f8.body.getD .skip))))))
noncomputable def brlOParse_3 : Code := Cd.snd (Cd.fst (Cd.snd (Cd.fst (Cd.snd (Cd.snd (Tryd.f8.body.getD .skip))))))
theorem rlOParse_3_step (k : Ex → St → Option Out) (r : List (List CV)) (e1 : Int) (e2 : Bool) (v1 : Nat) (v2 : List Int) : rangeK (EOParse) 41 3 [10, 11] (codeK Tryd.prog (EOParse) 40 arlOParse_3) (codeK Tryd.prog (EOParse) 40 brlOParse_3) ([.int .u32 e1, .bool e2] :: r) ⟨[(2, .ptr 0 0 0), (3, .ptr 1 0 0), (4, .ptr 2 0 0)], [(0, ⟨.var [.nils], false⟩), (1, ⟨.var [.cl (.int .i64 0)], false⟩), (2, ⟨.var [.ref 100 0 v1 true 1], false⟩), (100, ⟨.ints .u32 v2, false⟩)]⟩ k = rlOParse_3s (fun v1 v2 => rangeK (EOParse) 41 3 [10, 11] (codeK Tryd.prog (EOParse) 40 arlOParse_3) (codeK Tryd.prog (EOParse) 40 brlOParse_3) r ⟨[(2, .ptr 0 0 0), (3, .ptr 1 0 0), (4, .ptr 2 0 0)], [(0, ⟨.var [.nils], false⟩), (1, ⟨.var [.cl (.int .i64 0)], false⟩), (2, ⟨.var [.ref 100 0 v1 true 1], false⟩), (100, ⟨.ints .u32 v2, false⟩)]⟩ k) (fun y1 => k .ret ⟨[(2, .ptr 0 0 0), (3, .ptr 1 0 0), (4, .ptr 2 0 0)], [(0, ⟨.var [.nils], false⟩), (1, ⟨.var [.cl (.int .i64 5)], false⟩), (2, ⟨.var [.ref 100 0 y1 true 1], false⟩)]⟩) (fun y1 y2 => k .normal ⟨[(2, .ptr 0 0 0), (3, .ptr 1 0 0), (4, .ptr 2 0 0)], [(0, ⟨.var [.nils], false⟩), (1, ⟨.var [.cl (.int .i64 0)], false⟩), (2, ⟨.var [.ref 100 0 y1 true 1], false⟩), (100, ⟨.ints .u32 y2, false⟩)]⟩) e1 e2 v1 v2 := by kernel_rfl
theorem rlOParse_3_eq (k : Ex → St → Option Out) : ∀ (xs : List (List CV)), List.all xs okONums = true → ∀ (v1 : Nat) (v2 : List Int), rangeK (EOParse) 41 3 [10, 11] (codeK Tryd.prog (EOParse) 40 arlOParse_3) (codeK Tryd.prog (EOParse) 40 brlOParse_3) xs ⟨[(2, .ptr 0 0 0), (3, .ptr 1 0 0), (4, .ptr 2 0 0)], [(0, ⟨.var [.nils], false⟩), (1, ⟨.var [.cl (.int .i64 0)], false⟩), (2, ⟨.var [.ref 100 0 v1 true 1], false⟩), (100, ⟨.ints .u32 v2, false⟩)]⟩ k = rlOParse_3 (fun y1 => k .ret ⟨[(2, .ptr 0 0 0), (3, .ptr 1 0 0), (4, .ptr 2 0 0)], [(0, ⟨.var [.nils], false⟩), (1, ⟨.var [.cl (.int .i64 5)], false⟩), (2, ⟨.var [.ref 100 0 y1 true 1], false⟩)]⟩) (fun y1 y2 => k .normal ⟨[(2, .ptr 0 0 0), (3, .ptr 1 0 0), (4, .ptr 2 0 0)], [(0, ⟨.var [.nils], false⟩), (1, ⟨.var [.cl (.int .i64 0)], false⟩), (2, ⟨.var [.ref 100 0 y1 true 1], false⟩), (100, ⟨.ints .u32 y2, false⟩)]⟩) xs v1 v2
  | [], _ => by intros; rfl
  | x :: r, h => by
    intros
    simp only [List.all_cons, Bool.and_eq_true] at h
    obtain ⟨e1, e2, rfl⟩ := okONums_of h.1
    rw [rlOParse_3_step]
    have ih := rlOParse_3_eq k r h.2
    simp only [ih]
    rfl
theorem ROParse_3_ok : ∀ (σ : St) (xs : List (List CV)) (k : Ex → St → Option Out) (r : Out), ROParse_3 σ xs k = some r → rangeK (EOParse) 41 3 [10, 11] (codeK Tryd.prog (EOParse) 40 arlOParse_3) (codeK Tryd.prog (EOParse) 40 brlOParse_3) xs σ k = some r := by
  intro σ xs k r h
  unfold ROParse_3 at h
  split at h
  · replace h := cond_some h
    obtain ⟨hx, h⟩ := h
    replace h := cond_some h
    obtain ⟨hc, h⟩ := h
    simp only [Bool.and_eq_true, beq_prop, decide_eq_true_eq, Bool.not_eq_true'] at hc
    obtain ⟨⟨⟨⟨⟨⟨⟨⟨⟨⟨⟨⟨⟨⟨⟨⟨⟨⟨⟨rfl, rfl⟩, rfl⟩, rfl⟩, rfl⟩, rfl⟩, rfl⟩, rfl⟩, rfl⟩, rfl⟩, rfl⟩, rfl⟩, rfl⟩, rfl⟩, rfl⟩, rfl⟩, rfl⟩, rfl⟩, rfl⟩, rfl⟩ := hc
    rw [shut_eq] at h
    exact (rlOParse_3_eq k xs hx _ _ ).trans h
  · cases h
theorem loopsOParse : ∀ c, Tryd.f8.body = some c → LoopsOk Tryd.prog (EOParse) 40 c := by
  intro c hc
  cases hc
  exact ⟨trivial, ⟨trivial, ⟨⟨trivial, ⟨⟨trivial, trivial, jn_none rfl⟩, ⟨⟨trivial, ⟨⟨trivial, trivial, jn_none rfl⟩, trivial, jn_none rfl⟩, jn_none rfl⟩, ⟨⟨trivial, ⟨⟨trivial, ⟨trivial, trivial, jn_none rfl⟩, jn_none rfl⟩, trivial, jn_none rfl⟩, jn_none rfl⟩, trivial, jn_none rfl⟩, jn_none rfl⟩, rfl, rfl, rf_some rfl (ROParse_3_ok)⟩, jn_none rfl⟩, ⟨⟨trivial, ⟨⟨trivial, trivial, jn_none rfl⟩, trivial, jn_none rfl⟩, jn_none rfl⟩, ⟨trivial, trivial, jn_none rfl⟩, jn_none rfl⟩, jn_none rfl⟩, jn_none rfl⟩, jn_none rfl⟩
noncomputable def gOParse (b : List Int) : Option Out :=
  cond (bytesOk b) (
  cond (List.all (oidRows (oidNums b)) okONums) (
  shut (rlOParse_3
  (fun (y1 : Nat) =>
    some (.ret [.cl (.sli .u32 []), .cl (.int .i64 5)] []))
  (fun (y2 : Nat) (y3 : List Int) =>
    let r4 : Bool := oidFit y3
    cond (!r4) (
      some (.ret [.cl (.sli .u32 []), .cl (.int .i64 5)] []))
    (
      some (.ret [.cl (.sli .u32 y3), .cl (.int .i64 0)] [])))) (oidRows (oidNums b)) 0 []) none) none
theorem gOParse_eq (b : List Int) : bodyK Tryd.prog (EOParse) 40 false Tryd.f8 [.cl (.sli .u8 b)] [] = gOParse b := by kernel_rfl
end Go.Proofs.YtgkedgpgfmibhaaDoorA

namespace Go.Proofs.YtgkedgpgfmibhaaDoorA
noncomputable def lpR2Parse_5s (again : (List Int) → Nat → Int → Bool → Int → (List Int) → Option Out) (k0 : Option Out) (k1 : Nat → Bool → (List Int) → Option Out) (v1 : List Int) (v2 : Nat) (v3 : Int) (v4 : Bool) (v5 : Int) (v6 : List Int) : Option Out :=
  cond (decide (v5 < ((v1.length : Nat) : Int))) (
    cond (v4) (
      getK v1 v5 fun e1 =>
      cond (decide (e1 = 128)) (
        k0)
      (
        let x2 : Int := IntKind.u64.wrap (v3 * 128)
        getK v1 v5 fun e3 =>
        let x4 : Int := Int.tmod e3 128
        let x5 : Int := IntKind.u64.wrap x4
        let x6 : Int := IntKind.u64.wrap (x2 + x5)
        getK v1 v5 fun e7 =>
        cond (decide ((4294967295 : Int) < x6)) (
          k0)
        (
          cond (!(decide (e7 < 128))) (
            let x8 : Int := IntKind.i64.wrap (v5 + 1)
            again v1 v2 x6 (decide (e7 < 128)) x8 v6)
          (
            cond (decide (((v2 : Nat) : Int) = 0)) (
              cond (u32Ok x6) (
              let r9 : List Int := oidFirst x6
              let l10 : List Int := v6 ++ r9
              rmK l10.length 4 <|
              let x11 : Int := IntKind.i64.wrap (v5 + 1)
              again v1 l10.length 0 (decide (e7 < 128)) x11 l10) none)
            (
              let x12 : Int := IntKind.u32.wrap x6
              let l13 : List Int := v6 ++ [x12]
              rmK l13.length 4 <|
              let x14 : Int := IntKind.i64.wrap (v5 + 1)
              again v1 l13.length 0 (decide (e7 < 128)) x14 l13)))))
    (
      let x15 : Int := IntKind.u64.wrap (v3 * 128)
      getK v1 v5 fun e16 =>
      let x17 : Int := Int.tmod e16 128
      let x18 : Int := IntKind.u64.wrap x17
      let x19 : Int := IntKind.u64.wrap (x15 + x18)
      getK v1 v5 fun e20 =>
      cond (decide ((4294967295 : Int) < x19)) (
        k0)
      (
        cond (!(decide (e20 < 128))) (
          let x21 : Int := IntKind.i64.wrap (v5 + 1)
          again v1 v2 x19 (decide (e20 < 128)) x21 v6)
        (
          cond (decide (((v2 : Nat) : Int) = 0)) (
            cond (u32Ok x19) (
            let r22 : List Int := oidFirst x19
            let l23 : List Int := v6 ++ r22
            rmK l23.length 4 <|
            let x24 : Int := IntKind.i64.wrap (v5 + 1)
            again v1 l23.length 0 (decide (e20 < 128)) x24 l23) none)
          (
            let x25 : Int := IntKind.u32.wrap x19
            let l26 : List Int := v6 ++ [x25]
            rmK l26.length 4 <|
            let x27 : Int := IntKind.i64.wrap (v5 + 1)
            again v1 l26.length 0 (decide (e20 < 128)) x27 l26)))))
  (
    k1 v2 v4 v6)
noncomputable def lpR2Parse_5 (k0 : Option Out) (k1 : Nat → Bool → (List Int) → Option Out) : Nat → (List Int) → Nat → Int → Bool → Int → (List Int) → Option Out := iterF (fun a => lpR2Parse_5s a k0 k1) (fun _ _ _ _ _ _ => none)
noncomputable def LR2Parse_5 : St → (Ex → St → Option Out) → Option Out := fun σ k => match σ with
  | ⟨[(q1, .cl (.sli .u8 v1)), (q2, .ref q3 q4 v2 true q5), (q6, .cl (.int .u64 v3)), (q7, .cl (.bool v4)), (q8, .cl (.int .i64 v5))], [(q9, ⟨.ints .u32 v6, false⟩)]⟩ => cond (Nat.beq q1 0 && Nat.beq q2 4 && Nat.beq q3 68 && Nat.beq q4 0 && Nat.beq q5 1 && Nat.beq q6 5 && Nat.beq q7 6 && Nat.beq q8 7 && Nat.beq q9 68) (shut (lpR2Parse_5 (k .ret ⟨[(2, .ref 66 0 0 true 1), (3, .cl (.int .i64 5))], [(66, ⟨.ints .u32 [], false⟩)]⟩) (fun y1 y2 y3 => k (.exit 0) ⟨[(4, .ref 68 0 y1 true 1), (6, .cl (.bool y2))], [(68, ⟨.ints .u32 y3, false⟩)]⟩) FUEL) v1 v2 v3 v4 v5 v6) none
  | _ => none
noncomputable def ER2Parse : Env := {
  orc := fun g => cond (Nat.beq g 11) (SR2Fit) (cond (Nat.beq g 22) (SR2First) (fun _ _ => Tree.fail))
  pre := fun g => cond (Nat.beq g 11) (preR2Fit) (cond (Nat.beq g 22) (preR2First) (fun _ _ => true))
  byref := fun _ => []
  keep := fun _ => false
  live := fun r => cond (Nat.beq r 5) ([0, 4, 5, 6, 7]) ([])
  ren := fun r => cond (Nat.beq r 5) ([(110, 68), (115, 68)]) ([])
  glob := glOid
  nt := 60
  lp := fun r => cond (Nat.beq r 5) (some (LR2Parse_5)) (none)
  xl := fun r => cond (Nat.beq r 0) (some [2, 3]) (cond (Nat.beq r 1) (some [4, 6]) (cond (Nat.beq r 2) (some [0, 4, 5, 6, 7]) (none)))
}
noncomputable def blpR2Parse_5 : Code := (Cd.fst (Cd.fst (Cd.snd (Cd.fst (Cd.snd (Cd.snd (Cd.snd (Cd.snd (Tryd.f9.body.getD .skip)))))))))
theorem LR2Parse_5_ok : LpOk Tryd.prog (ER2Parse) 40 blpR2Parse_5 5 LR2Parse_5 := by
  intro σ k r h
  unfold LR2Parse_5 at h
  split at h
  · replace h := cond_some h
    obtain ⟨hc, h⟩ := h
    simp only [Bool.and_eq_true, beq_prop, decide_eq_true_eq, Bool.not_eq_true'] at hc
    obtain ⟨⟨⟨⟨⟨⟨⟨⟨rfl, rfl⟩, rfl⟩, rfl⟩, rfl⟩, rfl⟩, rfl⟩, rfl⟩, rfl⟩ := hc
    rw [shut_eq] at h
    exact ⟨FUEL, iter_ok (F := fun n v1 v2 v3 v4 v5 v6 => iterK n (codeK Tryd.prog (ER2Parse) 40 blpR2Parse_5) (head (ER2Parse) 5) ⟨[(0, .cl (.sli .u8 v1)), (4, .ref 68 0 v2 true 1), (5, .cl (.int .u64 v3)), (6, .cl (.bool v4)), (7, .cl (.int .i64 v5))], [(68, ⟨.ints .u32 v6, false⟩)]⟩ k) (Q := fun f => f _ _ _ _ _ _ = some r) rfl (fun n => by kernel_rfl) h⟩
  · cases h
theorem loopsR2Parse : ∀ c, Tryd.f9.body = some c → LoopsOk Tryd.prog (ER2Parse) 40 c := by
  intro c hc
  cases hc
  exact ⟨trivial, ⟨trivial, ⟨trivial, ⟨trivial, ⟨⟨trivial, ⟨⟨⟨trivial, ⟨trivial, trivial, jn_none rfl⟩, jn_none rfl⟩, ⟨⟨⟨trivial, ⟨⟨trivial, trivial, jn_none rfl⟩, trivial, jn_none rfl⟩, jn_none rfl⟩, ⟨trivial, ⟨trivial, ⟨⟨trivial, ⟨⟨trivial, trivial, jn_none rfl⟩, trivial, jn_none rfl⟩, jn_none rfl⟩, ⟨⟨trivial, ⟨trivial, trivial, jn_none rfl⟩, jn_none rfl⟩, ⟨⟨trivial, ⟨trivial, trivial, jn_none rfl⟩, jn_none rfl⟩, trivial, jn_none rfl⟩, jn_none rfl⟩, jn_none rfl⟩, jn_none rfl⟩, jn_none rfl⟩, jn_none rfl⟩, trivial, jn_none rfl⟩, jn_none rfl⟩, lp_some rfl (LR2Parse_5_ok)⟩, jn_none rfl⟩, ⟨⟨trivial, ⟨⟨trivial, trivial, jn_none rfl⟩, trivial, jn_none rfl⟩, jn_none rfl⟩, ⟨trivial, trivial, jn_none rfl⟩, jn_none rfl⟩, jn_none rfl⟩, jn_none rfl⟩, jn_none rfl⟩, jn_none rfl⟩, jn_none rfl⟩
noncomputable def gR2Parse (b : List Int) : Option Out :=
  shut (lpR2Parse_5
  (
    some (.ret [.cl (.sli .u32 []), .cl (.int .i64 5)] []))
  (fun (y1 : Nat) (y2 : Bool) (y3 : List Int) =>
    cond (!y2) (
      some (.ret [.cl (.sli .u32 []), .cl (.int .i64 5)] []))
    (
      let r4 : Bool := oidFit y3
      cond (!r4) (
        some (.ret [.cl (.sli .u32 []), .cl (.int .i64 5)] []))
      (
        some (.ret [.cl (.sli .u32 y3), .cl (.int .i64 0)] []))))
  FUEL) b 0 0 true 0 []
theorem gR2Parse_eq (b : List Int) : bodyK Tryd.prog (ER2Parse) 40 false Tryd.f9 [.cl (.sli .u8 b)] [] = gR2Parse b := by kernel_rfl
end Go.Proofs.YtgkedgpgfmibhaaDoorA

namespace Go.Proofs.YtgkedgpgfmibhaaDoorA
noncomputable def lpR1Same_4s (again : (List Int) → (List Int) → Int → Option Out) (k0 : Option Out) (k1 : Option Out) (v1 : List Int) (v2 : List Int) (v3 : Int) : Option Out :=
  cond (decide (v3 < ((v1.length : Nat) : Int))) (
    getK v1 v3 fun e1 =>
    getK v2 v3 fun e2 =>
    cond (!decide (e1 = e2)) (
      k0)
    (
      let x3 : Int := IntKind.i64.wrap (v3 + 1)
      again v1 v2 x3))
  (
    k1)
noncomputable def lpR1Same_4 (k0 : Option Out) (k1 : Option Out) : Nat → (List Int) → (List Int) → Int → Option Out := iterF (fun a => lpR1Same_4s a k0 k1) (fun _ _ _ => none)
noncomputable def LR1Same_4 : St → (Ex → St → Option Out) → Option Out := fun σ k => match σ with
  | ⟨[(q1, .cl (.sli .u8 v1)), (q2, .cl (.sli .u8 v2)), (q3, .cl (.int .i64 v3))], []⟩ => cond (Nat.beq q1 0 && Nat.beq q2 1 && Nat.beq q3 5) (shut (lpR1Same_4 (k .ret ⟨[(4, .cl (.bool false))], []⟩) (k (.exit 0) ⟨[], []⟩) FUEL) v1 v2 v3) none
  | _ => none
noncomputable def ER1Same : Env := {
  orc := fun _ => fun _ _ => Tree.fail
  pre := fun _ => fun _ _ => true
  byref := fun _ => []
  keep := fun _ => false
  live := fun r => cond (Nat.beq r 4) ([0, 1, 5]) ([])
  ren := fun _ => []
  glob := glOid
  nt := 26
  lp := fun r => cond (Nat.beq r 4) (some (LR1Same_4)) (none)
  xl := fun r => cond (Nat.beq r 0) (some [4]) (cond (Nat.beq r 1) (some []) (none))
}
noncomputable def blpR1Same_4 : Code := (Cd.fst (Cd.fst (Cd.snd (Cd.fst (Cd.snd (Cd.snd (Tryd.f12.body.getD .skip)))))))
theorem LR1Same_4_ok : LpOk Tryd.prog (ER1Same) 40 blpR1Same_4 4 LR1Same_4 := by
  intro σ k r h
  unfold LR1Same_4 at h
  split at h
  · replace h := cond_some h
    obtain ⟨hc, h⟩ := h
    simp only [Bool.and_eq_true, beq_prop, decide_eq_true_eq, Bool.not_eq_true'] at hc
    obtain ⟨⟨rfl, rfl⟩, rfl⟩ := hc
    rw [shut_eq] at h
    exact ⟨FUEL, iter_ok (F := fun n v1 v2 v3 => iterK n (codeK Tryd.prog (ER1Same) 40 blpR1Same_4) (head (ER1Same) 4) ⟨[(0, .cl (.sli .u8 v1)), (1, .cl (.sli .u8 v2)), (5, .cl (.int .i64 v3))], []⟩ k) (Q := fun f => f _ _ _ = some r) rfl (fun n => by kernel_rfl) h⟩
  · cases h
theorem loopsR1Same : ∀ c, Tryd.f12.body = some c → LoopsOk Tryd.prog (ER1Same) 40 c := by
  intro c hc
  cases hc
  exact ⟨trivial, ⟨⟨trivial, ⟨⟨trivial, trivial, jn_none rfl⟩, trivial, jn_none rfl⟩, jn_none rfl⟩, ⟨⟨trivial, ⟨⟨⟨trivial, ⟨trivial, trivial, jn_none rfl⟩, jn_none rfl⟩, ⟨⟨trivial, ⟨⟨trivial, trivial, jn_none rfl⟩, trivial, jn_none rfl⟩, jn_none rfl⟩, trivial, jn_none rfl⟩, jn_none rfl⟩, lp_some rfl (LR1Same_4_ok)⟩, jn_none rfl⟩, ⟨trivial, trivial, jn_none rfl⟩, jn_none rfl⟩, jn_none rfl⟩, jn_none rfl⟩
noncomputable def gR1Same (a : List Int) (b : List Int) : Option Out :=
  cond (!decide (((a.length : Nat) : Int) = ((b.length : Nat) : Int))) (
    some (.ret [.cl (.bool false)] []))
  (
    shut (lpR1Same_4
    (
      some (.ret [.cl (.bool false)] []))
    (
      some (.ret [.cl (.bool true)] []))
    FUEL) a b 0)
theorem gR1Same_eq (a : List Int) (b : List Int) : bodyK Tryd.prog (ER1Same) 40 false Tryd.f12 [.cl (.sli .u8 a), .cl (.sli .u8 b)] [] = gR1Same a b := by kernel_rfl
end Go.Proofs.YtgkedgpgfmibhaaDoorA

namespace Go.Proofs.YtgkedgpgfmibhaaDoorA
noncomputable def lpR2Same_4s (again : (List Int) → (List Int) → Int → Option Out) (k0 : Option Out) (k1 : Option Out) (v1 : List Int) (v2 : List Int) (v3 : Int) : Option Out :=
  cond (decide (v3 < ((v1.length : Nat) : Int))) (
    getK v1 v3 fun e1 =>
    getK v2 v3 fun e2 =>
    cond (!decide (e1 = e2)) (
      k0)
    (
      let x3 : Int := IntKind.i64.wrap (v3 + 1)
      again v1 v2 x3))
  (
    k1)
noncomputable def lpR2Same_4 (k0 : Option Out) (k1 : Option Out) : Nat → (List Int) → (List Int) → Int → Option Out := iterF (fun a => lpR2Same_4s a k0 k1) (fun _ _ _ => none)
noncomputable def LR2Same_4 : St → (Ex → St → Option Out) → Option Out := fun σ k => match σ with
  | ⟨[(q1, .cl (.sli .u32 v1)), (q2, .cl (.sli .u32 v2)), (q3, .cl (.int .i64 v3))], []⟩ => cond (Nat.beq q1 0 && Nat.beq q2 1 && Nat.beq q3 5) (shut (lpR2Same_4 (k .ret ⟨[(4, .cl (.bool false))], []⟩) (k (.exit 0) ⟨[], []⟩) FUEL) v1 v2 v3) none
  | _ => none
noncomputable def ER2Same : Env := {
  orc := fun _ => fun _ _ => Tree.fail
  pre := fun _ => fun _ _ => true
  byref := fun _ => []
  keep := fun _ => false
  live := fun r => cond (Nat.beq r 4) ([0, 1, 5]) ([])
  ren := fun _ => []
  glob := glOid
  nt := 26
  lp := fun r => cond (Nat.beq r 4) (some (LR2Same_4)) (none)
  xl := fun r => cond (Nat.beq r 0) (some [4]) (cond (Nat.beq r 1) (some []) (none))
}
noncomputable def blpR2Same_4 : Code := (Cd.fst (Cd.fst (Cd.snd (Cd.fst (Cd.snd (Cd.snd (Tryd.f15.body.getD .skip)))))))
theorem LR2Same_4_ok : LpOk Tryd.prog (ER2Same) 40 blpR2Same_4 4 LR2Same_4 := by
  intro σ k r h
  unfold LR2Same_4 at h
  split at h
  · replace h := cond_some h
    obtain ⟨hc, h⟩ := h
    simp only [Bool.and_eq_true, beq_prop, decide_eq_true_eq, Bool.not_eq_true'] at hc
    obtain ⟨⟨rfl, rfl⟩, rfl⟩ := hc
    rw [shut_eq] at h
    exact ⟨FUEL, iter_ok (F := fun n v1 v2 v3 => iterK n (codeK Tryd.prog (ER2Same) 40 blpR2Same_4) (head (ER2Same) 4) ⟨[(0, .cl (.sli .u32 v1)), (1, .cl (.sli .u32 v2)), (5, .cl (.int .i64 v3))], []⟩ k) (Q := fun f => f _ _ _ = some r) rfl (fun n => by kernel_rfl) h⟩
  · cases h
theorem loopsR2Same : ∀ c, Tryd.f15.body = some c → LoopsOk Tryd.prog (ER2Same) 40 c := by
  intro c hc
  cases hc
  exact ⟨trivial, ⟨⟨trivial, ⟨⟨trivial, trivial, jn_none rfl⟩, trivial, jn_none rfl⟩, jn_none rfl⟩, ⟨⟨trivial, ⟨⟨⟨trivial, ⟨trivial, trivial, jn_none rfl⟩, jn_none rfl⟩, ⟨⟨trivial, ⟨⟨trivial, trivial, jn_none rfl⟩, trivial, jn_none rfl⟩, jn_none rfl⟩, trivial, jn_none rfl⟩, jn_none rfl⟩, lp_some rfl (LR2Same_4_ok)⟩, jn_none rfl⟩, ⟨trivial, trivial, jn_none rfl⟩, jn_none rfl⟩, jn_none rfl⟩, jn_none rfl⟩
noncomputable def gR2Same (a : List Int) (b : List Int) : Option Out :=
  cond (!decide (((a.length : Nat) : Int) = ((b.length : Nat) : Int))) (
    some (.ret [.cl (.bool false)] []))
  (
    shut (lpR2Same_4
    (
      some (.ret [.cl (.bool false)] []))
    (
      some (.ret [.cl (.bool true)] []))
    FUEL) a b 0)
theorem gR2Same_eq (a : List Int) (b : List Int) : bodyK Tryd.prog (ER2Same) 40 false Tryd.f15 [.cl (.sli .u32 a), .cl (.sli .u32 b)] [] = gR2Same a b := by kernel_rfl
end Go.Proofs.YtgkedgpgfmibhaaDoorA

namespace Go.Proofs.YtgkedgpgfmibhaaDoorA
noncomputable def lpSEq32_4s (again : (List Int) → (List Int) → Int → Int → Option Out) (k0 : Option Out) (k1 : Option Out) (v1 : List Int) (v2 : List Int) (v3 : Int) (v4 : Int) : Option Out :=
  cond (decide (v4 < v3)) (
    getK v1 v4 fun e1 =>
    getK v2 v4 fun e2 =>
    cond (!decide (e1 = e2)) (
      k0)
    (
      let x3 : Int := IntKind.i64.wrap (v4 + 1)
      again v1 v2 v3 x3))
  (
    k1)
noncomputable def lpSEq32_4 (k0 : Option Out) (k1 : Option Out) : Nat → (List Int) → (List Int) → Int → Int → Option Out := iterF (fun a => lpSEq32_4s a k0 k1) (fun _ _ _ _ => none)
noncomputable def LSEq32_4 : St → (Ex → St → Option Out) → Option Out := fun σ k => match σ with
  | ⟨[(q1, .cl (.sli .u32 v1)), (q2, .cl (.sli .u32 v2)), (q3, .cl (.int .i64 v3)), (q4, .cl (.int .i64 v4))], []⟩ => cond (Nat.beq q1 0 && Nat.beq q2 1 && Nat.beq q3 12 && Nat.beq q4 13) (shut (lpSEq32_4 (k .ret ⟨[(4, .cl (.bool false))], []⟩) (k (.exit 0) ⟨[], []⟩) FUEL) v1 v2 v3 v4) none
  | _ => none
noncomputable def ESEq32 : Env := {
  orc := fun _ => fun _ _ => Tree.fail
  pre := fun _ => fun _ _ => true
  byref := fun _ => []
  keep := fun _ => false
  live := fun r => cond (Nat.beq r 4) ([0, 1, 12, 13]) ([])
  ren := fun _ => []
  glob := glOid
  nt := 26
  lp := fun r => cond (Nat.beq r 4) (some (LSEq32_4)) (none)
  xl := fun r => cond (Nat.beq r 0) (some [4]) (cond (Nat.beq r 1) (some []) (none))
}
noncomputable def blpSEq32_4 : Code := (Cd.fst (Cd.fst (Cd.snd (Cd.fst (Cd.snd (Cd.snd (Tryd.f32.body.getD .skip)))))))
theorem LSEq32_4_ok : LpOk Tryd.prog (ESEq32) 40 blpSEq32_4 4 LSEq32_4 := by
  intro σ k r h
  unfold LSEq32_4 at h
  split at h
  · replace h := cond_some h
    obtain ⟨hc, h⟩ := h
    simp only [Bool.and_eq_true, beq_prop, decide_eq_true_eq, Bool.not_eq_true'] at hc
    obtain ⟨⟨⟨rfl, rfl⟩, rfl⟩, rfl⟩ := hc
    rw [shut_eq] at h
    exact ⟨FUEL, iter_ok (F := fun n v1 v2 v3 v4 => iterK n (codeK Tryd.prog (ESEq32) 40 blpSEq32_4) (head (ESEq32) 4) ⟨[(0, .cl (.sli .u32 v1)), (1, .cl (.sli .u32 v2)), (12, .cl (.int .i64 v3)), (13, .cl (.int .i64 v4))], []⟩ k) (Q := fun f => f _ _ _ _ = some r) rfl (fun n => by kernel_rfl) h⟩
  · cases h
theorem loopsSEq32 : ∀ c, Tryd.f32.body = some c → LoopsOk Tryd.prog (ESEq32) 40 c := by
  intro c hc
  cases hc
  exact ⟨trivial, ⟨⟨trivial, ⟨⟨trivial, trivial, jn_none rfl⟩, trivial, jn_none rfl⟩, jn_none rfl⟩, ⟨⟨trivial, ⟨⟨trivial, ⟨⟨trivial, trivial, jn_none rfl⟩, ⟨⟨trivial, ⟨trivial, ⟨⟨trivial, trivial, jn_none rfl⟩, trivial, jn_none rfl⟩, jn_none rfl⟩, jn_none rfl⟩, trivial, jn_none rfl⟩, jn_none rfl⟩, jn_none rfl⟩, lp_some rfl (LSEq32_4_ok)⟩, jn_none rfl⟩, ⟨trivial, trivial, jn_none rfl⟩, jn_none rfl⟩, jn_none rfl⟩, jn_none rfl⟩
noncomputable def gSEq32 (a : List Int) (b : List Int) : Option Out :=
  cond (!decide (((a.length : Nat) : Int) = ((b.length : Nat) : Int))) (
    some (.ret [.cl (.bool false)] []))
  (
    shut (lpSEq32_4
    (
      some (.ret [.cl (.bool false)] []))
    (
      some (.ret [.cl (.bool true)] []))
    FUEL) a b ((a.length : Nat) : Int) 0)
theorem gSEq32_eq (a : List Int) (b : List Int) : bodyK Tryd.prog (ESEq32) 40 false Tryd.f32 [.cl (.sli .u32 a), .cl (.sli .u32 b)] [] = gSEq32 a b := by kernel_rfl
end Go.Proofs.YtgkedgpgfmibhaaDoorA

namespace Go.Proofs.YtgkedgpgfmibhaaDoorA
noncomputable def EOSame : Env := {
  orc := fun g => cond (Nat.beq g 32) (SSEq32) (fun _ _ => Tree.fail)
  pre := fun g => cond (Nat.beq g 32) (preSEq32) (fun _ _ => true)
  byref := fun _ => []
  keep := fun _ => false
  live := fun _ => []
  ren := fun _ => []
  glob := glOid
  nt := 8
  lp := fun _ => none
  xl := fun r => cond (Nat.beq r 0) (some [4]) (none)
}
theorem loopsOSame : ∀ c, Tryd.f20.body = some c → LoopsOk Tryd.prog (EOSame) 40 c := by
  intro c hc
  cases hc
  exact ⟨trivial, ⟨trivial, trivial, jn_none rfl⟩, jn_none rfl⟩
noncomputable def gOSame (a : List Int) (b : List Int) : Option Out :=
  cond (lenOk a) (
  let r1 : Bool := listSame a b
  some (.ret [.cl (.bool r1)] [])) none
theorem gOSame_eq (a : List Int) (b : List Int) : bodyK Tryd.prog (EOSame) 40 false Tryd.f20 [.cl (.sli .u32 a), .cl (.sli .u32 b)] [] = gOSame a b := by kernel_rfl
end Go.Proofs.YtgkedgpgfmibhaaDoorA

namespace Go.Proofs.YtgkedgpgfmibhaaDoorA
noncomputable def jnOPut_2 (k0 : Int → Int → Int → Int → Int → Option Out) (k1 : Int → Int → Int → Int → Option Out) (k2 : Int → Int → Int → Option Out) (k3 : Int → Int → Option Out) (k4 : Int → Option Out) (v1 : Int) : Option Out :=
  let x1 : Int := Int.fdiv v1 (2 ^ 28)
  cond (!decide (x1 = 0)) (
    let x2 : Int := Int.fdiv v1 (2 ^ 28)
    let x3 : Int := IntKind.u8.wrap x2
    let x4 : Int := IntKind.u8.wrap ((BitVec.ofInt 8 x3 ||| BitVec.ofInt 8 128).toNat)
    let x5 : Int := Int.fdiv v1 (2 ^ 21)
    cond (!decide (x5 = 0)) (
      let x6 : Int := Int.fdiv v1 (2 ^ 21)
      let x7 : Int := IntKind.u8.wrap x6
      let x8 : Int := IntKind.u8.wrap ((BitVec.ofInt 8 x7 ||| BitVec.ofInt 8 128).toNat)
      let x9 : Int := Int.fdiv v1 (2 ^ 14)
      cond (!decide (x9 = 0)) (
        let x10 : Int := Int.fdiv v1 (2 ^ 14)
        let x11 : Int := IntKind.u8.wrap x10
        let x12 : Int := IntKind.u8.wrap ((BitVec.ofInt 8 x11 ||| BitVec.ofInt 8 128).toNat)
        let x13 : Int := Int.fdiv v1 (2 ^ 7)
        cond (!decide (x13 = 0)) (
          let x14 : Int := Int.fdiv v1 (2 ^ 7)
          let x15 : Int := IntKind.u8.wrap x14
          let x16 : Int := IntKind.u8.wrap ((BitVec.ofInt 8 x15 ||| BitVec.ofInt 8 128).toNat)
          k0 v1 x4 x8 x12 x16)
        (
          k1 v1 x4 x8 x12))
      (
        let x17 : Int := Int.fdiv v1 (2 ^ 7)
        cond (!decide (x17 = 0)) (
          let x18 : Int := Int.fdiv v1 (2 ^ 7)
          let x19 : Int := IntKind.u8.wrap x18
          let x20 : Int := IntKind.u8.wrap ((BitVec.ofInt 8 x19 ||| BitVec.ofInt 8 128).toNat)
          k1 v1 x4 x8 x20)
        (
          k2 v1 x4 x8)))
    (
      let x21 : Int := Int.fdiv v1 (2 ^ 14)
      cond (!decide (x21 = 0)) (
        let x22 : Int := Int.fdiv v1 (2 ^ 14)
        let x23 : Int := IntKind.u8.wrap x22
        let x24 : Int := IntKind.u8.wrap ((BitVec.ofInt 8 x23 ||| BitVec.ofInt 8 128).toNat)
        let x25 : Int := Int.fdiv v1 (2 ^ 7)
        cond (!decide (x25 = 0)) (
          let x26 : Int := Int.fdiv v1 (2 ^ 7)
          let x27 : Int := IntKind.u8.wrap x26
          let x28 : Int := IntKind.u8.wrap ((BitVec.ofInt 8 x27 ||| BitVec.ofInt 8 128).toNat)
          k1 v1 x4 x24 x28)
        (
          k2 v1 x4 x24))
      (
        let x29 : Int := Int.fdiv v1 (2 ^ 7)
        cond (!decide (x29 = 0)) (
          let x30 : Int := Int.fdiv v1 (2 ^ 7)
          let x31 : Int := IntKind.u8.wrap x30
          let x32 : Int := IntKind.u8.wrap ((BitVec.ofInt 8 x31 ||| BitVec.ofInt 8 128).toNat)
          k2 v1 x4 x32)
        (
          k3 v1 x4))))
  (
    let x33 : Int := Int.fdiv v1 (2 ^ 21)
    cond (!decide (x33 = 0)) (
      let x34 : Int := Int.fdiv v1 (2 ^ 21)
      let x35 : Int := IntKind.u8.wrap x34
      let x36 : Int := IntKind.u8.wrap ((BitVec.ofInt 8 x35 ||| BitVec.ofInt 8 128).toNat)
      let x37 : Int := Int.fdiv v1 (2 ^ 14)
      cond (!decide (x37 = 0)) (
        let x38 : Int := Int.fdiv v1 (2 ^ 14)
        let x39 : Int := IntKind.u8.wrap x38
        let x40 : Int := IntKind.u8.wrap ((BitVec.ofInt 8 x39 ||| BitVec.ofInt 8 128).toNat)
        let x41 : Int := Int.fdiv v1 (2 ^ 7)
        cond (!decide (x41 = 0)) (
          let x42 : Int := Int.fdiv v1 (2 ^ 7)
          let x43 : Int := IntKind.u8.wrap x42
          let x44 : Int := IntKind.u8.wrap ((BitVec.ofInt 8 x43 ||| BitVec.ofInt 8 128).toNat)
          k1 v1 x36 x40 x44)
        (
          k2 v1 x36 x40))
      (
        let x45 : Int := Int.fdiv v1 (2 ^ 7)
        cond (!decide (x45 = 0)) (
          let x46 : Int := Int.fdiv v1 (2 ^ 7)
          let x47 : Int := IntKind.u8.wrap x46
          let x48 : Int := IntKind.u8.wrap ((BitVec.ofInt 8 x47 ||| BitVec.ofInt 8 128).toNat)
          k2 v1 x36 x48)
        (
          k3 v1 x36)))
    (
      let x49 : Int := Int.fdiv v1 (2 ^ 14)
      cond (!decide (x49 = 0)) (
        let x50 : Int := Int.fdiv v1 (2 ^ 14)
        let x51 : Int := IntKind.u8.wrap x50
        let x52 : Int := IntKind.u8.wrap ((BitVec.ofInt 8 x51 ||| BitVec.ofInt 8 128).toNat)
        let x53 : Int := Int.fdiv v1 (2 ^ 7)
        cond (!decide (x53 = 0)) (
          let x54 : Int := Int.fdiv v1 (2 ^ 7)
          let x55 : Int := IntKind.u8.wrap x54
          let x56 : Int := IntKind.u8.wrap ((BitVec.ofInt 8 x55 ||| BitVec.ofInt 8 128).toNat)
          k2 v1 x52 x56)
        (
          k3 v1 x52))
      (
        let x57 : Int := Int.fdiv v1 (2 ^ 7)
        cond (!decide (x57 = 0)) (
          let x58 : Int := Int.fdiv v1 (2 ^ 7)
          let x59 : Int := IntKind.u8.wrap x58
          let x60 : Int := IntKind.u8.wrap ((BitVec.ofInt 8 x59 ||| BitVec.ofInt 8 128).toNat)
          k3 v1 x60)
        (
          k4 v1))))
noncomputable def jnOPut_2_1 (k0 : Nat → Int → (List Int) → Option Out) (k1 : Nat → Int → (List Int) → Option Out) (v1 : Nat) (v2 : Int) (v3 : List Int) : Option Out :=
  let x1 : Int := Int.fdiv v2 (2 ^ 28)
  cond (!decide (x1 = 0)) (
    let x2 : Int := Int.fdiv v2 (2 ^ 28)
    let x3 : Int := IntKind.u8.wrap x2
    let x4 : Int := IntKind.u8.wrap ((BitVec.ofInt 8 x3 ||| BitVec.ofInt 8 128).toNat)
    let l5 : List Int := v3 ++ [x4]
    rmK l5.length 1 <|
    let x6 : Int := Int.fdiv v2 (2 ^ 21)
    cond (!decide (x6 = 0)) (
      let x7 : Int := Int.fdiv v2 (2 ^ 21)
      let x8 : Int := IntKind.u8.wrap x7
      let x9 : Int := IntKind.u8.wrap ((BitVec.ofInt 8 x8 ||| BitVec.ofInt 8 128).toNat)
      let l10 : List Int := l5 ++ [x9]
      rmK l10.length 1 <|
      let x11 : Int := Int.fdiv v2 (2 ^ 14)
      cond (!decide (x11 = 0)) (
        let x12 : Int := Int.fdiv v2 (2 ^ 14)
        let x13 : Int := IntKind.u8.wrap x12
        let x14 : Int := IntKind.u8.wrap ((BitVec.ofInt 8 x13 ||| BitVec.ofInt 8 128).toNat)
        let l15 : List Int := l10 ++ [x14]
        rmK l15.length 1 <|
        let x16 : Int := Int.fdiv v2 (2 ^ 7)
        cond (!decide (x16 = 0)) (
          let x17 : Int := Int.fdiv v2 (2 ^ 7)
          let x18 : Int := IntKind.u8.wrap x17
          let x19 : Int := IntKind.u8.wrap ((BitVec.ofInt 8 x18 ||| BitVec.ofInt 8 128).toNat)
          let l20 : List Int := l15 ++ [x19]
          rmK l20.length 1 <|
          k0 l20.length v2 l20)
        (
          k0 l15.length v2 l15))
      (
        let x21 : Int := Int.fdiv v2 (2 ^ 7)
        cond (!decide (x21 = 0)) (
          let x22 : Int := Int.fdiv v2 (2 ^ 7)
          let x23 : Int := IntKind.u8.wrap x22
          let x24 : Int := IntKind.u8.wrap ((BitVec.ofInt 8 x23 ||| BitVec.ofInt 8 128).toNat)
          let l25 : List Int := l10 ++ [x24]
          rmK l25.length 1 <|
          k0 l25.length v2 l25)
        (
          k0 l10.length v2 l10)))
    (
      let x26 : Int := Int.fdiv v2 (2 ^ 14)
      cond (!decide (x26 = 0)) (
        let x27 : Int := Int.fdiv v2 (2 ^ 14)
        let x28 : Int := IntKind.u8.wrap x27
        let x29 : Int := IntKind.u8.wrap ((BitVec.ofInt 8 x28 ||| BitVec.ofInt 8 128).toNat)
        let l30 : List Int := l5 ++ [x29]
        rmK l30.length 1 <|
        let x31 : Int := Int.fdiv v2 (2 ^ 7)
        cond (!decide (x31 = 0)) (
          let x32 : Int := Int.fdiv v2 (2 ^ 7)
          let x33 : Int := IntKind.u8.wrap x32
          let x34 : Int := IntKind.u8.wrap ((BitVec.ofInt 8 x33 ||| BitVec.ofInt 8 128).toNat)
          let l35 : List Int := l30 ++ [x34]
          rmK l35.length 1 <|
          k0 l35.length v2 l35)
        (
          k0 l30.length v2 l30))
      (
        let x36 : Int := Int.fdiv v2 (2 ^ 7)
        cond (!decide (x36 = 0)) (
          let x37 : Int := Int.fdiv v2 (2 ^ 7)
          let x38 : Int := IntKind.u8.wrap x37
          let x39 : Int := IntKind.u8.wrap ((BitVec.ofInt 8 x38 ||| BitVec.ofInt 8 128).toNat)
          let l40 : List Int := l5 ++ [x39]
          rmK l40.length 1 <|
          k0 l40.length v2 l40)
        (
          k0 l5.length v2 l5))))
  (
    let x41 : Int := Int.fdiv v2 (2 ^ 21)
    cond (!decide (x41 = 0)) (
      let x42 : Int := Int.fdiv v2 (2 ^ 21)
      let x43 : Int := IntKind.u8.wrap x42
      let x44 : Int := IntKind.u8.wrap ((BitVec.ofInt 8 x43 ||| BitVec.ofInt 8 128).toNat)
      let l45 : List Int := v3 ++ [x44]
      rmK l45.length 1 <|
      let x46 : Int := Int.fdiv v2 (2 ^ 14)
      cond (!decide (x46 = 0)) (
        let x47 : Int := Int.fdiv v2 (2 ^ 14)
        let x48 : Int := IntKind.u8.wrap x47
        let x49 : Int := IntKind.u8.wrap ((BitVec.ofInt 8 x48 ||| BitVec.ofInt 8 128).toNat)
        let l50 : List Int := l45 ++ [x49]
        rmK l50.length 1 <|
        let x51 : Int := Int.fdiv v2 (2 ^ 7)
        cond (!decide (x51 = 0)) (
          let x52 : Int := Int.fdiv v2 (2 ^ 7)
          let x53 : Int := IntKind.u8.wrap x52
          let x54 : Int := IntKind.u8.wrap ((BitVec.ofInt 8 x53 ||| BitVec.ofInt 8 128).toNat)
          let l55 : List Int := l50 ++ [x54]
          rmK l55.length 1 <|
          k0 l55.length v2 l55)
        (
          k0 l50.length v2 l50))
      (
        let x56 : Int := Int.fdiv v2 (2 ^ 7)
        cond (!decide (x56 = 0)) (
          let x57 : Int := Int.fdiv v2 (2 ^ 7)
          let x58 : Int := IntKind.u8.wrap x57
          let x59 : Int := IntKind.u8.wrap ((BitVec.ofInt 8 x58 ||| BitVec.ofInt 8 128).toNat)
          let l60 : List Int := l45 ++ [x59]
          rmK l60.length 1 <|
          k0 l60.length v2 l60)
        (
          k0 l45.length v2 l45)))
    (
      let x61 : Int := Int.fdiv v2 (2 ^ 14)
      cond (!decide (x61 = 0)) (
        let x62 : Int := Int.fdiv v2 (2 ^ 14)
        let x63 : Int := IntKind.u8.wrap x62
        let x64 : Int := IntKind.u8.wrap ((BitVec.ofInt 8 x63 ||| BitVec.ofInt 8 128).toNat)
        let l65 : List Int := v3 ++ [x64]
        rmK l65.length 1 <|
        let x66 : Int := Int.fdiv v2 (2 ^ 7)
        cond (!decide (x66 = 0)) (
          let x67 : Int := Int.fdiv v2 (2 ^ 7)
          let x68 : Int := IntKind.u8.wrap x67
          let x69 : Int := IntKind.u8.wrap ((BitVec.ofInt 8 x68 ||| BitVec.ofInt 8 128).toNat)
          let l70 : List Int := l65 ++ [x69]
          rmK l70.length 1 <|
          k0 l70.length v2 l70)
        (
          k0 l65.length v2 l65))
      (
        let x71 : Int := Int.fdiv v2 (2 ^ 7)
        cond (!decide (x71 = 0)) (
          let x72 : Int := Int.fdiv v2 (2 ^ 7)
          let x73 : Int := IntKind.u8.wrap x72
          let x74 : Int := IntKind.u8.wrap ((BitVec.ofInt 8 x73 ||| BitVec.ofInt 8 128).toNat)
          let l75 : List Int := v3 ++ [x74]
          rmK l75.length 1 <|
          k0 l75.length v2 l75)
        (
          k1 v1 v2 v3))))
noncomputable def JOPut_2 : St → (Ex → St → Option Out) → Option Out := fun σ k => match σ with
  | ⟨[(q1, .nils), (q2, .cl (.int .u32 v1)), (q3, .cl (.int .i64 q4))], []⟩ => cond (Nat.beq q1 0 && Nat.beq q2 1 && Nat.beq q3 5 && decide (q4 = 28)) (shut (jnOPut_2 (fun y1 y2 y3 y4 y5 => k .normal ⟨[(0, .ref 85 0 4 true 1), (1, .cl (.int .u32 y1))], [(85, ⟨.ints .u8 [y2, y3, y4, y5], false⟩)]⟩) (fun y1 y2 y3 y4 => k .normal ⟨[(0, .ref 85 0 3 true 1), (1, .cl (.int .u32 y1))], [(85, ⟨.ints .u8 [y2, y3, y4], false⟩)]⟩) (fun y1 y2 y3 => k .normal ⟨[(0, .ref 85 0 2 true 1), (1, .cl (.int .u32 y1))], [(85, ⟨.ints .u8 [y2, y3], false⟩)]⟩) (fun y1 y2 => k .normal ⟨[(0, .ref 85 0 1 true 1), (1, .cl (.int .u32 y1))], [(85, ⟨.ints .u8 [y2], false⟩)]⟩) (fun y1 => k .normal ⟨[(0, .nils), (1, .cl (.int .u32 y1))], []⟩)) v1) none
  | ⟨[(q1, .ref q2 q3 v1 true q4), (q5, .cl (.int .u32 v2)), (q6, .cl (.int .i64 q7))], [(q8, ⟨.ints .u8 v3, false⟩)]⟩ => cond (Nat.beq q1 0 && Nat.beq q2 0 && Nat.beq q3 0 && Nat.beq q4 1 && Nat.beq q5 1 && Nat.beq q6 5 && decide (q7 = 28) && Nat.beq q8 0) (shut (jnOPut_2_1 (fun y1 y2 y3 => k .normal ⟨[(0, .ref 85 0 y1 true 1), (1, .cl (.int .u32 y2))], [(85, ⟨.ints .u8 y3, false⟩)]⟩) (fun y1 y2 y3 => k .normal ⟨[(0, .ref 0 0 y1 true 1), (1, .cl (.int .u32 y2))], [(0, ⟨.ints .u8 y3, false⟩)]⟩)) v1 v2 v3) none
  | _ => none
noncomputable def EOPut : Env := {
  orc := fun _ => fun _ _ => Tree.fail
  pre := fun _ => fun _ _ => true
  byref := fun _ => []
  keep := fun _ => false
  live := fun r => cond (Nat.beq r 2) ([0, 1, 5]) ([])
  ren := fun _ => []
  glob := glOid
  nt := 28
  lp := fun _ => none
  xl := fun r => cond (Nat.beq r 0) (some [4]) (cond (Nat.beq r 1) (some [0, 1]) (cond (Nat.beq r 1002) (some [0, 1]) (none)))
  jn := fun r => cond (Nat.beq r 2) (some (JOPut_2)) (none)
}
noncomputable def bjnOPut_2 : Code := (Cd.snd (Cd.fst (Cd.snd (Tryd.f23.body.getD .skip))))
theorem JOPut_2_ok : JnOk Tryd.prog (EOPut) 40 bjnOPut_2 2 JOPut_2 := by
  intro σ k r h
  unfold JOPut_2 at h
  split at h
  · replace h := cond_some h
    obtain ⟨hc, h⟩ := h
    simp only [Bool.and_eq_true, beq_prop, decide_eq_true_eq, Bool.not_eq_true'] at hc
    obtain ⟨⟨⟨rfl, rfl⟩, rfl⟩, rfl⟩ := hc
    rw [shut_eq] at h
    exact Eq.trans (by kernel_rfl) h
  · replace h := cond_some h
    obtain ⟨hc, h⟩ := h
    simp only [Bool.and_eq_true, beq_prop, decide_eq_true_eq, Bool.not_eq_true'] at hc
    obtain ⟨⟨⟨⟨⟨⟨⟨rfl, rfl⟩, rfl⟩, rfl⟩, rfl⟩, rfl⟩, rfl⟩, rfl⟩ := hc
    rw [shut_eq] at h
    exact Eq.trans (by kernel_rfl) h
  · cases h
theorem loopsOPut : ∀ c, Tryd.f23.body = some c → LoopsOk Tryd.prog (EOPut) 40 c := by
  intro c hc
  cases hc
  exact ⟨trivial, ⟨⟨trivial, ⟨⟨⟨trivial, ⟨trivial, trivial, jn_none rfl⟩, jn_none rfl⟩, ⟨⟨trivial, ⟨trivial, trivial, jn_none rfl⟩, jn_none rfl⟩, trivial, jn_none rfl⟩, jn_none rfl⟩, lp_none rfl⟩, jn_some rfl (JOPut_2_ok)⟩, ⟨trivial, trivial, jn_none rfl⟩, jn_none rfl⟩, jn_none rfl⟩
noncomputable def gOPut_0 (n : Int) : Option Out :=
  shut (jnOPut_2
  (fun (y1 : Int) (y2 : Int) (y3 : Int) (y4 : Int) (y5 : Int) =>
    let x6 : Int := IntKind.u8.wrap y1
    let x7 : Int := IntKind.u8.wrap ((BitVec.ofInt 8 x6 &&& ~~~ BitVec.ofInt 8 128).toNat)
    some (.ret [.ref 0 0 5 true 1] [some ⟨.ints .u8 [y2, y3, y4, y5, x7], false⟩]))
  (fun (y8 : Int) (y9 : Int) (y10 : Int) (y11 : Int) =>
    let x12 : Int := IntKind.u8.wrap y8
    let x13 : Int := IntKind.u8.wrap ((BitVec.ofInt 8 x12 &&& ~~~ BitVec.ofInt 8 128).toNat)
    some (.ret [.ref 0 0 4 true 1] [some ⟨.ints .u8 [y9, y10, y11, x13], false⟩]))
  (fun (y14 : Int) (y15 : Int) (y16 : Int) =>
    let x17 : Int := IntKind.u8.wrap y14
    let x18 : Int := IntKind.u8.wrap ((BitVec.ofInt 8 x17 &&& ~~~ BitVec.ofInt 8 128).toNat)
    some (.ret [.ref 0 0 3 true 1] [some ⟨.ints .u8 [y15, y16, x18], false⟩]))
  (fun (y19 : Int) (y20 : Int) =>
    let x21 : Int := IntKind.u8.wrap y19
    let x22 : Int := IntKind.u8.wrap ((BitVec.ofInt 8 x21 &&& ~~~ BitVec.ofInt 8 128).toNat)
    some (.ret [.ref 0 0 2 true 1] [some ⟨.ints .u8 [y20, x22], false⟩]))
  (fun (y23 : Int) =>
    let x24 : Int := IntKind.u8.wrap y23
    let x25 : Int := IntKind.u8.wrap ((BitVec.ofInt 8 x24 &&& ~~~ BitVec.ofInt 8 128).toNat)
    some (.ret [.ref 0 0 1 true 1] [some ⟨.ints .u8 [x25], false⟩]))) n
theorem gOPut_0_eq (n : Int) : bodyK Tryd.prog (EOPut) 40 true Tryd.f23 [.nils, .cl (.int .u32 n)] [] = gOPut_0 n := by kernel_rfl
noncomputable def gOPut_1 (m : Nat) (n : Int) (l : List Int) : Option Out :=
  shut (jnOPut_2_1
  (fun (y1 : Nat) (y2 : Int) (y3 : List Int) =>
    let x4 : Int := IntKind.u8.wrap y2
    let x5 : Int := IntKind.u8.wrap ((BitVec.ofInt 8 x4 &&& ~~~ BitVec.ofInt 8 128).toNat)
    let l6 : List Int := y3 ++ [x5]
    rmK l6.length 1 <|
    some (.ret [.ref 1 0 l6.length true 1] [none, some ⟨.ints .u8 l6, false⟩]))
  (fun (y7 : Nat) (y8 : Int) (y9 : List Int) =>
    let x10 : Int := IntKind.u8.wrap y8
    let x11 : Int := IntKind.u8.wrap ((BitVec.ofInt 8 x10 &&& ~~~ BitVec.ofInt 8 128).toNat)
    let l12 : List Int := y9 ++ [x11]
    rmK l12.length 1 <|
    some (.ret [.ref 1 0 l12.length true 1] [none, some ⟨.ints .u8 l12, false⟩]))) m n l
theorem gOPut_1_eq (m : Nat) (n : Int) (l : List Int) : bodyK Tryd.prog (EOPut) 40 true Tryd.f23 [.ref 0 0 m true 1, .cl (.int .u32 n)] [⟨.ints .u8 l, false⟩] = gOPut_1 m n l := by kernel_rfl
end Go.Proofs.YtgkedgpgfmibhaaDoorA

namespace Go.Proofs.YtgkedgpgfmibhaaDoorA
noncomputable def lpR2Groups_3s (again : Int → Nat → (List Int) → Option Out) (k0 : Nat → (List Int) → Option Out) (v1 : Int) (v2 : Nat) (v3 : List Int) : Option Out :=
  cond (decide ((0 : Int) < v1)) (
    let x4 : Int := Int.tmod v1 128
    let x5 : Int := IntKind.u32.wrap ((128 : Int) + x4)
    let x6 : Int := IntKind.u8.wrap x5
    let l7 : List Int := [x6] ++ v3
    rmK l7.length 1 <|
    let x8 : Int := IntKind.u32.wrap (Int.tdiv v1 128)
    again x8 l7.length l7)
  (
    k0 v2 v3)
noncomputable def lpR2Groups_3 (k0 : Nat → (List Int) → Option Out) : Nat → Int → Nat → (List Int) → Option Out := iterF (fun a => lpR2Groups_3s a k0) (fun _ _ _ => none)
noncomputable def LR2Groups_3 : St → (Ex → St → Option Out) → Option Out := fun σ k => match σ with
  | ⟨[(q1, .cl (.int .u32 v1)), (q2, .ref q3 q4 v2 true q5)], [(q6, ⟨.ints .u8 v3, false⟩)]⟩ => cond (Nat.beq q1 0 && Nat.beq q2 3 && Nat.beq q3 71 && Nat.beq q4 0 && Nat.beq q5 1 && Nat.beq q6 71) (shut (lpR2Groups_3 (fun y1 y2 => k (.exit 0) ⟨[(3, .ref 71 0 y1 true 1)], [(71, ⟨.ints .u8 y2, false⟩)]⟩) FUEL) v1 v2 v3) none
  | _ => none
noncomputable def ER2Groups : Env := {
  orc := fun _ => fun _ _ => Tree.fail
  pre := fun _ => fun _ _ => true
  byref := fun _ => []
  keep := fun _ => false
  live := fun r => cond (Nat.beq r 3) ([0, 3]) ([])
  ren := fun r => cond (Nat.beq r 3) ([(84, 71)]) ([])
  glob := glOid
  nt := 22
  lp := fun r => cond (Nat.beq r 3) (some (LR2Groups_3)) (none)
  xl := fun r => cond (Nat.beq r 0) (some [2]) (cond (Nat.beq r 1) (some [3]) (none))
}
noncomputable def blpR2Groups_3 : Code := (Cd.fst (Cd.fst (Cd.snd (Cd.fst (Cd.snd (Cd.snd (Tryd.f24.body.getD .skip)))))))
theorem LR2Groups_3_ok : LpOk Tryd.prog (ER2Groups) 40 blpR2Groups_3 3 LR2Groups_3 := by
  intro σ k r h
  unfold LR2Groups_3 at h
  split at h
  · replace h := cond_some h
    obtain ⟨hc, h⟩ := h
    simp only [Bool.and_eq_true, beq_prop, decide_eq_true_eq, Bool.not_eq_true'] at hc
    obtain ⟨⟨⟨⟨⟨rfl, rfl⟩, rfl⟩, rfl⟩, rfl⟩, rfl⟩ := hc
    rw [shut_eq] at h
    exact ⟨FUEL, iter_ok (F := fun n v1 v2 v3 => iterK n (codeK Tryd.prog (ER2Groups) 40 blpR2Groups_3) (head (ER2Groups) 3) ⟨[(0, .cl (.int .u32 v1)), (3, .ref 71 0 v2 true 1)], [(71, ⟨.ints .u8 v3, false⟩)]⟩ k) (Q := fun f => f _ _ _ = some r) rfl (fun n => by kernel_rfl) h⟩
  · cases h
theorem loopsR2Groups : ∀ c, Tryd.f24.body = some c → LoopsOk Tryd.prog (ER2Groups) 40 c := by
  intro c hc
  cases hc
  exact ⟨trivial, ⟨trivial, ⟨⟨trivial, ⟨⟨⟨trivial, ⟨trivial, trivial, jn_none rfl⟩, jn_none rfl⟩, ⟨trivial, trivial, jn_none rfl⟩, jn_none rfl⟩, lp_some rfl (LR2Groups_3_ok)⟩, jn_none rfl⟩, ⟨trivial, trivial, jn_none rfl⟩, jn_none rfl⟩, jn_none rfl⟩, jn_none rfl⟩
noncomputable def gR2Groups (n : Int) : Option Out :=
  let x1 : Int := Int.tmod n 128
  let x2 : Int := IntKind.u8.wrap x1
  let x3 : Int := IntKind.u32.wrap (Int.tdiv n 128)
  shut (lpR2Groups_3
  (fun (y4 : Nat) (y5 : List Int) =>
    some (.ret [.ref 0 0 y4 true 1] [some ⟨.ints .u8 y5, false⟩]))
  FUEL) x3 1 [x2]
theorem gR2Groups_eq (n : Int) : bodyK Tryd.prog (ER2Groups) 40 true Tryd.f24 [.cl (.int .u32 n)] [] = gR2Groups n := by kernel_rfl
end Go.Proofs.YtgkedgpgfmibhaaDoorA

namespace Go.Proofs.YtgkedgpgfmibhaaDoorA
noncomputable def lpOBytes_5s (again : Nat → (List Int) → Int → Int → (List Int) → Option Out) (k0 : Nat → (List Int) → Option Out) (v1 : Nat) (v2 : List Int) (v3 : Int) (v4 : Int) (v5 : List Int) : Option Out :=
  cond (decide (v4 < v3)) (
    getK v2 v4 fun e9 =>
    cond (u32Ok e9 && lenOk v5) (
    let r10 : Nat := (v5 ++ oidGroups e9).length
    let r11 : List Int := v5 ++ oidGroups e9
    let x12 : Int := IntKind.i64.wrap (v4 + 1)
    again r10 v2 v3 x12 r11) none)
  (
    k0 v1 v5)
noncomputable def lpOBytes_5 (k0 : Nat → (List Int) → Option Out) : Nat → Nat → (List Int) → Int → Int → (List Int) → Option Out := iterF (fun a => lpOBytes_5s a k0) (fun _ _ _ _ _ => none)
noncomputable def LOBytes_5 : St → (Ex → St → Option Out) → Option Out := fun σ k => match σ with
  | ⟨[(q1, .ref q2 q3 v1 true q4), (q5, .cl (.sli .u32 v2)), (q6, .cl (.int .i64 v3)), (q7, .cl (.int .i64 v4))], [(q8, ⟨.ints .u8 v5, false⟩)]⟩ => cond (Nat.beq q1 3 && Nat.beq q2 81 && Nat.beq q3 0 && Nat.beq q4 1 && Nat.beq q5 19 && Nat.beq q6 20 && Nat.beq q7 21 && Nat.beq q8 81) (shut (lpOBytes_5 (fun y1 y2 => k (.exit 0) ⟨[(3, .ref 81 0 y1 true 1)], [(81, ⟨.ints .u8 y2, false⟩)]⟩) FUEL) v1 v2 v3 v4 v5) none
  | _ => none
noncomputable def EOBytes : Env := {
  orc := fun g => cond (Nat.beq g 10) (SOFit) (cond (Nat.beq g 23) (SOPut) (fun _ _ => Tree.fail))
  pre := fun g => cond (Nat.beq g 10) (preOFit) (cond (Nat.beq g 23) (preOPut) (fun _ _ => true))
  byref := fun g => cond (Nat.beq g 23) ([0]) ([])
  keep := fun g => cond (Nat.beq g 23) (true) (false)
  live := fun r => cond (Nat.beq r 5) ([3, 19, 20, 21]) ([])
  ren := fun r => cond (Nat.beq r 5) ([(91, 81)]) ([])
  glob := glOid
  nt := 30
  lp := fun r => cond (Nat.beq r 5) (some (LOBytes_5)) (none)
  xl := fun r => cond (Nat.beq r 0) (some [2]) (cond (Nat.beq r 1) (some [3]) (none))
}
noncomputable def blpOBytes_5 : Code := (Cd.fst (Cd.fst (Cd.snd (Cd.fst (Cd.snd (Cd.snd (Cd.snd (Tryd.f13.body.getD .skip))))))))
theorem LOBytes_5_ok : LpOk Tryd.prog (EOBytes) 40 blpOBytes_5 5 LOBytes_5 := by
  intro σ k r h
  unfold LOBytes_5 at h
  split at h
  · replace h := cond_some h
    obtain ⟨hc, h⟩ := h
    simp only [Bool.and_eq_true, beq_prop, decide_eq_true_eq, Bool.not_eq_true'] at hc
    obtain ⟨⟨⟨⟨⟨⟨⟨rfl, rfl⟩, rfl⟩, rfl⟩, rfl⟩, rfl⟩, rfl⟩, rfl⟩ := hc
    rw [shut_eq] at h
    exact ⟨FUEL, iter_ok (F := fun n v1 v2 v3 v4 v5 => iterK n (codeK Tryd.prog (EOBytes) 40 blpOBytes_5) (head (EOBytes) 5) ⟨[(3, .ref 81 0 v1 true 1), (19, .cl (.sli .u32 v2)), (20, .cl (.int .i64 v3)), (21, .cl (.int .i64 v4))], [(81, ⟨.ints .u8 v5, false⟩)]⟩ k) (Q := fun f => f _ _ _ _ _ = some r) rfl (fun n => by kernel_rfl) h⟩
  · cases h
theorem loopsOBytes : ∀ c, Tryd.f13.body = some c → LoopsOk Tryd.prog (EOBytes) 40 c := by
  intro c hc
  cases hc
  exact ⟨trivial, ⟨⟨trivial, ⟨⟨trivial, trivial, jn_none rfl⟩, trivial, jn_none rfl⟩, jn_none rfl⟩, ⟨trivial, ⟨⟨trivial, ⟨⟨trivial, ⟨⟨trivial, trivial, jn_none rfl⟩, ⟨⟨trivial, trivial, jn_none rfl⟩, trivial, jn_none rfl⟩, jn_none rfl⟩, jn_none rfl⟩, lp_some rfl (LOBytes_5_ok)⟩, jn_none rfl⟩, ⟨trivial, trivial, jn_none rfl⟩, jn_none rfl⟩, jn_none rfl⟩, jn_none rfl⟩, jn_none rfl⟩
noncomputable def gOBytes (o : List Int) : Option Out :=
  let r1 : Bool := oidFit o
  cond (!r1) (
    some (.ret [.cl (.sli .u8 [])] []))
  (
    cond (decide ((0 : Int) < ((o.length : Nat) : Int))) (
    Option.bind (o[0]?) fun (e2 : Int) =>
    let x3 : Int := IntKind.u32.wrap ((40 : Int) * e2)
    cond (decide ((1 : Int) < ((o.length : Nat) : Int))) (
    Option.bind (o[1]?) fun (e4 : Int) =>
    let x5 : Int := IntKind.u32.wrap (x3 + e4)
    cond (u32Ok x5) (
    let r6 : Nat := (oidGroups x5).length
    let r7 : List Int := oidGroups x5
    cond (decide ((2 : Int) ≤ ((o.length : Nat) : Int))) (
    let l8 : List Int := List.drop 2 o
    shut (lpOBytes_5
    (fun (y9 : Nat) (y10 : List Int) =>
      some (.ret [.cl (.sli .u8 y10)] []))
    FUEL) r6 l8 ((l8.length : Nat) : Int) 0 r7) none) none) none) none)
theorem gOBytes_eq (o : List Int) : bodyK Tryd.prog (EOBytes) 40 false Tryd.f13 [.cl (.sli .u32 o)] [] = gOBytes o := by kernel_rfl
end Go.Proofs.YtgkedgpgfmibhaaDoorA

namespace Go.Proofs.YtgkedgpgfmibhaaDoorA
noncomputable def lpR2Bytes_5s (again : (List Int) → Nat → Int → (List Int) → Option Out) (k0 : Nat → (List Int) → Option Out) (v1 : List Int) (v2 : Nat) (v3 : Int) (v4 : List Int) : Option Out :=
  cond (decide (v3 < ((v1.length : Nat) : Int))) (
    getK v1 v3 fun e8 =>
    cond (u32Ok e8) (
    let r10 : List Int := oidGroups e8
    let l11 : List Int := v4 ++ r10
    rmK l11.length 1 <|
    let x12 : Int := IntKind.i64.wrap (v3 + 1)
    again v1 l11.length x12 l11) none)
  (
    k0 v2 v4)
noncomputable def lpR2Bytes_5 (k0 : Nat → (List Int) → Option Out) : Nat → (List Int) → Nat → Int → (List Int) → Option Out := iterF (fun a => lpR2Bytes_5s a k0) (fun _ _ _ _ => none)
noncomputable def LR2Bytes_5 : St → (Ex → St → Option Out) → Option Out := fun σ k => match σ with
  | ⟨[(q1, .cl (.sli .u32 v1)), (q2, .ref q3 q4 v2 true q5), (q6, .cl (.int .i64 v3))], [(q7, ⟨.ints .u8 v4, false⟩)]⟩ => cond (Nat.beq q1 0 && Nat.beq q2 3 && Nat.beq q3 80 && Nat.beq q4 0 && Nat.beq q5 1 && Nat.beq q6 4 && Nat.beq q7 80) (shut (lpR2Bytes_5 (fun y1 y2 => k (.exit 0) ⟨[(3, .ref 80 0 y1 true 1)], [(80, ⟨.ints .u8 y2, false⟩)]⟩) FUEL) v1 v2 v3 v4) none
  | _ => none
noncomputable def ER2Bytes : Env := {
  orc := fun g => cond (Nat.beq g 11) (SR2Fit) (cond (Nat.beq g 24) (SR2Groups) (fun _ _ => Tree.fail))
  pre := fun g => cond (Nat.beq g 11) (preR2Fit) (cond (Nat.beq g 24) (preR2Groups) (fun _ _ => true))
  byref := fun _ => []
  keep := fun g => cond (Nat.beq g 24) (true) (false)
  live := fun r => cond (Nat.beq r 5) ([0, 3, 4]) ([])
  ren := fun r => cond (Nat.beq r 5) ([(93, 80)]) ([])
  glob := glOid
  nt := 31
  lp := fun r => cond (Nat.beq r 5) (some (LR2Bytes_5)) (none)
  xl := fun r => cond (Nat.beq r 0) (some [2]) (cond (Nat.beq r 1) (some [3]) (none))
}
noncomputable def blpR2Bytes_5 : Code := (Cd.fst (Cd.fst (Cd.snd (Cd.fst (Cd.snd (Cd.snd (Cd.snd (Tryd.f14.body.getD .skip))))))))
theorem LR2Bytes_5_ok : LpOk Tryd.prog (ER2Bytes) 40 blpR2Bytes_5 5 LR2Bytes_5 := by
  intro σ k r h
  unfold LR2Bytes_5 at h
  split at h
  · replace h := cond_some h
    obtain ⟨hc, h⟩ := h
    simp only [Bool.and_eq_true, beq_prop, decide_eq_true_eq, Bool.not_eq_true'] at hc
    obtain ⟨⟨⟨⟨⟨⟨rfl, rfl⟩, rfl⟩, rfl⟩, rfl⟩, rfl⟩, rfl⟩ := hc
    rw [shut_eq] at h
    exact ⟨FUEL, iter_ok (F := fun n v1 v2 v3 v4 => iterK n (codeK Tryd.prog (ER2Bytes) 40 blpR2Bytes_5) (head (ER2Bytes) 5) ⟨[(0, .cl (.sli .u32 v1)), (3, .ref 80 0 v2 true 1), (4, .cl (.int .i64 v3))], [(80, ⟨.ints .u8 v4, false⟩)]⟩ k) (Q := fun f => f _ _ _ _ = some r) rfl (fun n => by kernel_rfl) h⟩
  · cases h
theorem loopsR2Bytes : ∀ c, Tryd.f14.body = some c → LoopsOk Tryd.prog (ER2Bytes) 40 c := by
  intro c hc
  cases hc
  exact ⟨trivial, ⟨⟨trivial, ⟨⟨trivial, trivial, jn_none rfl⟩, trivial, jn_none rfl⟩, jn_none rfl⟩, ⟨trivial, ⟨⟨trivial, ⟨⟨⟨trivial, ⟨trivial, trivial, jn_none rfl⟩, jn_none rfl⟩, ⟨trivial, trivial, jn_none rfl⟩, jn_none rfl⟩, lp_some rfl (LR2Bytes_5_ok)⟩, jn_none rfl⟩, ⟨trivial, trivial, jn_none rfl⟩, jn_none rfl⟩, jn_none rfl⟩, jn_none rfl⟩, jn_none rfl⟩
noncomputable def gR2Bytes (o : List Int) : Option Out :=
  let r1 : Bool := oidFit o
  cond (!r1) (
    some (.ret [.cl (.sli .u8 [])] []))
  (
    cond (decide ((0 : Int) < ((o.length : Nat) : Int))) (
    Option.bind (o[0]?) fun (e2 : Int) =>
    let x3 : Int := IntKind.u32.wrap ((40 : Int) * e2)
    cond (decide ((1 : Int) < ((o.length : Nat) : Int))) (
    Option.bind (o[1]?) fun (e4 : Int) =>
    let x5 : Int := IntKind.u32.wrap (x3 + e4)
    cond (u32Ok x5) (
    let r6 : Nat := (oidGroups x5).length
    let r7 : List Int := oidGroups x5
    shut (lpR2Bytes_5
    (fun (y8 : Nat) (y9 : List Int) =>
      some (.ret [.cl (.sli .u8 y9)] []))
    FUEL) o r6 2 r7) none) none) none)
theorem gR2Bytes_eq (o : List Int) : bodyK Tryd.prog (ER2Bytes) 40 false Tryd.f14 [.cl (.sli .u32 o)] [] = gR2Bytes o := by kernel_rfl
end Go.Proofs.YtgkedgpgfmibhaaDoorA

namespace Go.Proofs.YtgkedgpgfmibhaaDoorA
noncomputable def EXLog : Env := {
  orc := fun _ => fun _ _ => Tree.fail
  pre := fun _ => fun _ _ => true
  byref := fun _ => []
  keep := fun _ => false
  live := fun _ => []
  ren := fun _ => []
  glob := glOid
  nt := 6
  lp := fun _ => none
  xl := fun r => cond (Nat.beq r 0) (some [2]) (none)
}
theorem loopsXLog : ∀ c, Tryd.f67.body = some c → LoopsOk Tryd.prog (EXLog) 40 c := by
  intro c hc
  cases hc
  exact ⟨trivial, ⟨trivial, trivial, jn_none rfl⟩, jn_none rfl⟩
noncomputable def gXLog (n : Int) : Option Out :=
  let x1 : Int := IntKind.i64.wrap (n * 78913)
  let x2 : Int := Int.fdiv x1 (2 ^ 18)
  some (.ret [.cl (.int .i64 x2)] [])
theorem gXLog_eq (n : Int) : bodyK Tryd.prog (EXLog) 40 false Tryd.f67 [.cl (.int .i64 n)] [] = gXLog n := by kernel_rfl
end Go.Proofs.YtgkedgpgfmibhaaDoorA

namespace Go.Proofs.YtgkedgpgfmibhaaDoorA
noncomputable def EXBool2 : Env := {
  orc := fun _ => fun _ _ => Tree.fail
  pre := fun _ => fun _ _ => true
  byref := fun _ => []
  keep := fun _ => false
  live := fun _ => []
  ren := fun _ => []
  glob := glOid
  nt := 4
  lp := fun _ => none
  xl := fun r => cond (Nat.beq r 0) (some [2]) (none)
}
theorem loopsXBool2 : ∀ c, Tryd.f69.body = some c → LoopsOk Tryd.prog (EXBool2) 40 c := by
  intro c hc
  cases hc
  exact ⟨trivial, ⟨⟨trivial, ⟨⟨trivial, trivial, jn_none rfl⟩, trivial, jn_none rfl⟩, jn_none rfl⟩, ⟨trivial, trivial, jn_none rfl⟩, jn_none rfl⟩, jn_none rfl⟩
noncomputable def gXBool2 (b : Bool) : Option Out :=
  cond (b) (
    some (.ret [.cl (.int .i64 1)] []))
  (
    some (.ret [.cl (.int .i64 0)] []))
theorem gXBool2_eq (b : Bool) : bodyK Tryd.prog (EXBool2) 40 false Tryd.f69 [.cl (.bool b)] [] = gXBool2 b := by kernel_rfl
end Go.Proofs.YtgkedgpgfmibhaaDoorA

namespace Go.Proofs.YtgkedgpgfmibhaaDoorA
noncomputable def EXDigits : Env := {
  orc := fun g => cond (Nat.beq g 67) (SXLog) (cond (Nat.beq g 68) (SXLen) (cond (Nat.beq g 69) (SXBool2) (fun _ _ => Tree.fail)))
  pre := fun g => cond (Nat.beq g 67) (preXLog) (cond (Nat.beq g 68) (preXLen) (cond (Nat.beq g 69) (preXBool2) (fun _ _ => true)))
  byref := fun _ => []
  keep := fun _ => false
  live := fun _ => []
  ren := fun _ => []
  glob := glOid
  nt := 15
  lp := fun _ => none
  xl := fun r => cond (Nat.beq r 0) (some [2]) (none)
}
theorem loopsXDigits : ∀ c, Tryd.f54.body = some c → LoopsOk Tryd.prog (EXDigits) 40 c := by
  intro c hc
  cases hc
  exact ⟨trivial, ⟨trivial, ⟨trivial, trivial, jn_none rfl⟩, jn_none rfl⟩, jn_none rfl⟩
noncomputable def gXDigits (n : Int) : Option Out :=
  cond (u64Ok n) (
  let r1 : Int := bitL n
  cond (le64 r1) (
  let r2 : Int := logL r1
  cond (decide ((0 : Int) ≤ r2)) (
  cond (decide (r2 < 20)) (
  Option.bind (pow10S[(Int.toNat r2)]?) fun (e3 : Int) =>
  let r4 : Int := boolI (decide (e3 ≤ n))
  let x5 : Int := IntKind.i64.wrap (r2 + r4)
  some (.ret [.cl (.int .i64 x5)] [])) none) none) none) none
theorem gXDigits_eq (n : Int) : bodyK Tryd.prog (EXDigits) 40 false Tryd.f54 [.cl (.int .u64 n)] [] = gXDigits n := by kernel_rfl
end Go.Proofs.YtgkedgpgfmibhaaDoorA

namespace Go.Proofs.YtgkedgpgfmibhaaDoorA
noncomputable def EXFormat : Env := {
  orc := fun g => cond (Nat.beq g 53) (SXSmall) (cond (Nat.beq g 54) (SXDigits) (cond (Nat.beq g 55) (SXBase10) (fun _ _ => Tree.fail)))
  pre := fun g => cond (Nat.beq g 53) (preXSmall) (cond (Nat.beq g 54) (preXDigits) (cond (Nat.beq g 55) (preXBase10) (fun _ _ => true)))
  byref := fun g => cond (Nat.beq g 55) ([0]) ([])
  keep := fun _ => false
  live := fun _ => []
  ren := fun _ => []
  glob := glOid
  nt := 32
  lp := fun _ => none
  xl := fun r => cond (Nat.beq r 0) (some [4]) (none)
}
theorem loopsXFormat : ∀ c, Tryd.f41.body = some c → LoopsOk Tryd.prog (EXFormat) 40 c := by
  intro c hc
  cases hc
  exact ⟨trivial, ⟨⟨trivial, ⟨⟨⟨trivial, ⟨⟨trivial, trivial, jn_none rfl⟩, trivial, jn_none rfl⟩, jn_none rfl⟩, ⟨trivial, ⟨trivial, ⟨trivial, ⟨trivial, trivial, jn_none rfl⟩, jn_none rfl⟩, jn_none rfl⟩, jn_none rfl⟩, jn_none rfl⟩, trivial, jn_none rfl⟩, jn_none rfl⟩, ⟨trivial, ⟨trivial, trivial, jn_none rfl⟩, jn_none rfl⟩, jn_none rfl⟩, jn_none rfl⟩
noncomputable def gXFormat (n : Int) : Option Out :=
  cond (decide (n < 100)) (
    let x1 : Int := IntKind.i64.wrap n
    cond (smallOk x1) (
    let r2 : ByteArray := digS x1
    some (.ret [.cl (.str r2)] [])) none)
  (
    cond (u64Pos n) (
    let r3 : Int := digN n
    cond (decide ((0 : Int) ≤ r3)) (
    cond (decide (r3 ≤ 24)) (
    cond (fmtOk (Int.toNat r3) n [0, 0, 0, 0, 0, 0, 0, 0, 0, 0, 0, 0, 0, 0, 0, 0, 0, 0, 0, 0, 0, 0, 0, 0]) (
    let r4 : List Int := digL n ++ [0, 0, 0, 0, 0, 0, 0, 0, 0, 0, 0, 0, 0, 0, 0, 0, 0, 0, 0, 0, 0, 0, 0, 0].drop (Int.toNat r3)
    cond (decide ((0 : Int) ≤ r3)) (
    cond (decide (r3 ≤ 24)) (
    let s5 : ByteArray := strOf (List.take (Int.toNat r3) r4)
    some (.ret [.cl (.str s5)] [])) none) none) none) none) none) none)
theorem gXFormat_eq (n : Int) : bodyK Tryd.prog (EXFormat) 40 false Tryd.f41 [.cl (.int .u64 n), .cl (.int .i64 10)] [] = gXFormat n := by kernel_rfl
end Go.Proofs.YtgkedgpgfmibhaaDoorA

namespace Go.Proofs.YtgkedgpgfmibhaaDoorA
noncomputable def ESFormat : Env := {
  orc := fun g => cond (Nat.beq g 41) (SXFormat) (fun _ _ => Tree.fail)
  pre := fun g => cond (Nat.beq g 41) (preXFormat) (fun _ _ => true)
  byref := fun _ => []
  keep := fun _ => false
  live := fun _ => []
  ren := fun _ => []
  glob := glOid
  nt := 8
  lp := fun _ => none
  xl := fun r => cond (Nat.beq r 0) (some [4]) (none)
}
theorem loopsSFormat : ∀ c, Tryd.f28.body = some c → LoopsOk Tryd.prog (ESFormat) 40 c := by
  intro c hc
  cases hc
  exact ⟨trivial, ⟨trivial, trivial, jn_none rfl⟩, jn_none rfl⟩
noncomputable def gSFormat (n : Int) : Option Out :=
  cond (u32Ok n) (
  let r1 : ByteArray := digS n
  some (.ret [.cl (.str r1)] [])) none
theorem gSFormat_eq (n : Int) : bodyK Tryd.prog (ESFormat) 40 false Tryd.f28 [.cl (.int .u64 n), .cl (.int .i64 10)] [] = gSFormat n := by kernel_rfl
end Go.Proofs.YtgkedgpgfmibhaaDoorA

namespace Go.Proofs.YtgkedgpgfmibhaaDoorA
noncomputable def lpR2Digits_2s (again : Int → ByteArray → Option Out) (k0 : Int → ByteArray → Option Out) (v1 : Int) (v2 : ByteArray) : Option Out :=
  cond (decide ((10 : Int) ≤ v1)) (
    let x1 : Int := Int.tmod v1 10
    let x2 : Int := IntKind.u64.wrap ((48 : Int) + x1)
    let x3 : Int := IntKind.u8.wrap x2
    let s4 : ByteArray := strOf [x3]
    cond (Nat.ble (s4.size + v2.size) LIMN) (
    let s5 : ByteArray := s4 ++ v2
    let x6 : Int := IntKind.u64.wrap (Int.tdiv v1 10)
    again x6 s5) none)
  (
    k0 v1 v2)
noncomputable def lpR2Digits_2 (k0 : Int → ByteArray → Option Out) : Nat → Int → ByteArray → Option Out := iterF (fun a => lpR2Digits_2s a k0) (fun _ _ => none)
noncomputable def LR2Digits_2 : St → (Ex → St → Option Out) → Option Out := fun σ k => match σ with
  | ⟨[(q1, .cl (.int .u64 v1)), (q2, .cl (.str v2))], []⟩ => cond (Nat.beq q1 0 && Nat.beq q2 3) (shut (lpR2Digits_2 (fun y1 y2 => k (.exit 0) ⟨[(0, .cl (.int .u64 y1)), (3, .cl (.str y2))], []⟩) FUEL) v1 v2) none
  | _ => none
noncomputable def ER2Digits : Env := {
  orc := fun _ => fun _ _ => Tree.fail
  pre := fun _ => fun _ _ => true
  byref := fun _ => []
  keep := fun _ => false
  live := fun r => cond (Nat.beq r 2) ([0, 3]) ([])
  ren := fun _ => []
  glob := glOid
  nt := 23
  lp := fun r => cond (Nat.beq r 2) (some (LR2Digits_2)) (none)
  xl := fun r => cond (Nat.beq r 0) (some [2]) (cond (Nat.beq r 1) (some [0, 3]) (none))
}
noncomputable def blpR2Digits_2 : Code := (Cd.fst (Cd.fst (Cd.fst (Cd.snd (Cd.snd (Tryd.f31.body.getD .skip))))))
theorem LR2Digits_2_ok : LpOk Tryd.prog (ER2Digits) 40 blpR2Digits_2 2 LR2Digits_2 := by
  intro σ k r h
  unfold LR2Digits_2 at h
  split at h
  · replace h := cond_some h
    obtain ⟨hc, h⟩ := h
    simp only [Bool.and_eq_true, beq_prop, decide_eq_true_eq, Bool.not_eq_true'] at hc
    obtain ⟨rfl, rfl⟩ := hc
    rw [shut_eq] at h
    exact ⟨FUEL, iter_ok (F := fun n v1 v2 => iterK n (codeK Tryd.prog (ER2Digits) 40 blpR2Digits_2) (head (ER2Digits) 2) ⟨[(0, .cl (.int .u64 v1)), (3, .cl (.str v2))], []⟩ k) (Q := fun f => f _ _ = some r) rfl (fun n => by kernel_rfl) h⟩
  · cases h
theorem loopsR2Digits : ∀ c, Tryd.f31.body = some c → LoopsOk Tryd.prog (ER2Digits) 40 c := by
  intro c hc
  cases hc
  exact ⟨trivial, ⟨trivial, ⟨⟨⟨⟨trivial, ⟨trivial, trivial, jn_none rfl⟩, jn_none rfl⟩, ⟨trivial, trivial, jn_none rfl⟩, jn_none rfl⟩, lp_some rfl (LR2Digits_2_ok)⟩, ⟨trivial, trivial, jn_none rfl⟩, jn_none rfl⟩, jn_none rfl⟩, jn_none rfl⟩
noncomputable def gR2Digits (n : Int) : Option Out :=
  shut (lpR2Digits_2
  (fun (y1 : Int) (y2 : ByteArray) =>
    let x3 : Int := IntKind.u64.wrap ((48 : Int) + y1)
    let x4 : Int := IntKind.u8.wrap x3
    let s5 : ByteArray := strOf [x4]
    cond (Nat.ble (s5.size + y2.size) LIMN) (
    let s6 : ByteArray := s5 ++ y2
    some (.ret [.cl (.str s6)] [])) none)
  FUEL) n (⟨#[]⟩ : ByteArray)
theorem gR2Digits_eq (n : Int) : bodyK Tryd.prog (ER2Digits) 40 false Tryd.f31 [.cl (.int .u64 n)] [] = gR2Digits n := by kernel_rfl
end Go.Proofs.YtgkedgpgfmibhaaDoorA

namespace Go.Proofs.YtgkedgpgfmibhaaDoorA
noncomputable def lpOText_5s (again : Nat → (List Int) → Int → Int → (List CV) → Option Out) (k0 : Nat → (List CV) → Option Out) (v1 : Nat) (v2 : List Int) (v3 : Int) (v4 : Int) (v5 : List CV) : Option Out :=
  cond (decide (v4 < v3)) (
    getK v2 v4 fun e2 =>
    let x3 : Int := IntKind.u64.wrap e2
    cond (u32Ok x3) (
    let r4 : ByteArray := digS x3
    idxK v4 v1 fun _ =>
    let l5 : List CV := v5.set (0 + (Int.toNat v4)) (.str r4)
    let x6 : Int := IntKind.i64.wrap (v4 + 1)
    again v1 v2 v3 x6 l5) none)
  (
    k0 v1 v5)
noncomputable def lpOText_5 (k0 : Nat → (List CV) → Option Out) : Nat → Nat → (List Int) → Int → Int → (List CV) → Option Out := iterF (fun a => lpOText_5s a k0) (fun _ _ _ _ _ => none)
noncomputable def LOText_5 : St → (Ex → St → Option Out) → Option Out := fun σ k => match σ with
  | ⟨[(q1, .ref q2 q3 v1 true q4), (q5, .cl (.sli .u32 v2)), (q6, .cl (.int .i64 v3)), (q7, .cl (.int .i64 v4))], [(q8, ⟨.gen q9 v5, false⟩)]⟩ => cond (Nat.beq q1 3 && Nat.beq q2 75 && Nat.beq q3 0 && Nat.beq q4 1 && Nat.beq q5 12 && Nat.beq q6 13 && Nat.beq q7 14 && Nat.beq q8 75 && Nat.beq q9 1) (shut (lpOText_5 (fun y1 y2 => k (.exit 0) ⟨[(3, .ref 75 0 y1 true 1)], [(75, ⟨.gen 1 y2, false⟩)]⟩) FUEL) v1 v2 v3 v4 v5) none
  | _ => none
noncomputable def EOText : Env := {
  orc := fun g => cond (Nat.beq g 10) (SOFit) (cond (Nat.beq g 28) (SSFormat) (cond (Nat.beq g 29) (SSJoin) (fun _ _ => Tree.fail)))
  pre := fun g => cond (Nat.beq g 10) (preOFit) (cond (Nat.beq g 28) (preSFormat) (cond (Nat.beq g 29) (preSJoin) (fun _ _ => true)))
  byref := fun _ => []
  keep := fun _ => false
  live := fun r => cond (Nat.beq r 5) ([3, 12, 13, 14]) ([])
  ren := fun _ => []
  glob := glOid
  nt := 28
  lp := fun r => cond (Nat.beq r 5) (some (LOText_5)) (none)
  xl := fun r => cond (Nat.beq r 0) (some [2]) (cond (Nat.beq r 1) (some [3]) (none))
}
noncomputable def blpOText_5 : Code := (Cd.fst (Cd.fst (Cd.snd (Cd.fst (Cd.snd (Cd.snd (Cd.snd (Tryd.f17.body.getD .skip))))))))
theorem LOText_5_ok : LpOk Tryd.prog (EOText) 40 blpOText_5 5 LOText_5 := by
  intro σ k r h
  unfold LOText_5 at h
  split at h
  · replace h := cond_some h
    obtain ⟨hc, h⟩ := h
    simp only [Bool.and_eq_true, beq_prop, decide_eq_true_eq, Bool.not_eq_true'] at hc
    obtain ⟨⟨⟨⟨⟨⟨⟨⟨rfl, rfl⟩, rfl⟩, rfl⟩, rfl⟩, rfl⟩, rfl⟩, rfl⟩, rfl⟩ := hc
    rw [shut_eq] at h
    exact ⟨FUEL, iter_ok (F := fun n v1 v2 v3 v4 v5 => iterK n (codeK Tryd.prog (EOText) 40 blpOText_5) (head (EOText) 5) ⟨[(3, .ref 75 0 v1 true 1), (12, .cl (.sli .u32 v2)), (13, .cl (.int .i64 v3)), (14, .cl (.int .i64 v4))], [(75, ⟨.gen 1 v5, false⟩)]⟩ k) (Q := fun f => f _ _ _ _ _ = some r) rfl (fun n => by kernel_rfl) h⟩
  · cases h
theorem loopsOText : ∀ c, Tryd.f17.body = some c → LoopsOk Tryd.prog (EOText) 40 c := by
  intro c hc
  cases hc
  exact ⟨trivial, ⟨⟨trivial, ⟨⟨trivial, trivial, jn_none rfl⟩, trivial, jn_none rfl⟩, jn_none rfl⟩, ⟨trivial, ⟨⟨trivial, ⟨⟨trivial, ⟨⟨trivial, trivial, jn_none rfl⟩, ⟨⟨trivial, trivial, jn_none rfl⟩, trivial, jn_none rfl⟩, jn_none rfl⟩, jn_none rfl⟩, lp_some rfl (LOText_5_ok)⟩, jn_none rfl⟩, ⟨trivial, trivial, jn_none rfl⟩, jn_none rfl⟩, jn_none rfl⟩, jn_none rfl⟩, jn_none rfl⟩
noncomputable def gOText (o : List Int) : Option Out :=
  let r1 : Bool := oidFit o
  cond (!r1) (
    some (.ret [.cl (.str (⟨#[]⟩ : ByteArray))] []))
  (
    cond (decide ((0 : Int) ≤ ((o.length : Nat) : Int))) (
    cond (decide (((o.length : Nat) : Int) ≤ ((o.length : Nat) : Int))) (
    cond (decide (((o.length : Nat) : Int) * 16 ≤ LIM)) (
    cond (decide (((o.length : Nat) : Int) ≤ LIM)) (
    shut (lpOText_5
    (fun (y2 : Nat) (y3 : List CV) =>
      cond (strsOk y3 && dotOk (⟨#[46]⟩ : ByteArray)) (
      let r4 : ByteArray := strJoin y3 (⟨#[46]⟩ : ByteArray)
      some (.ret [.cl (.str r4)] [])) none)
    FUEL) (Int.toNat ((o.length : Nat) : Int)) o ((o.length : Nat) : Int) 0 (List.replicate (Int.toNat ((o.length : Nat) : Int)) (.str (⟨#[]⟩ : ByteArray)))) none) none) none) none)
theorem gOText_eq (o : List Int) : bodyK Tryd.prog (EOText) 40 false Tryd.f17 [.cl (.sli .u32 o)] [] = gOText o := by kernel_rfl
end Go.Proofs.YtgkedgpgfmibhaaDoorA

namespace Go.Proofs.YtgkedgpgfmibhaaDoorA
noncomputable def lpR2Text_5s (again : (List Int) → ByteArray → Int → Option Out) (k0 : ByteArray → Option Out) (v1 : List Int) (v2 : ByteArray) (v3 : Int) : Option Out :=
  cond (decide (v3 < ((v1.length : Nat) : Int))) (
    cond (Nat.ble (v2.size + (⟨#[46]⟩ : ByteArray).size) LIMN) (
    let s5 : ByteArray := v2 ++ (⟨#[46]⟩ : ByteArray)
    getK v1 v3 fun e6 =>
    let x7 : Int := IntKind.u64.wrap e6
    cond (u64Ok x7) (
    let r8 : ByteArray := digS x7
    cond (Nat.ble (s5.size + r8.size) LIMN) (
    let s9 : ByteArray := s5 ++ r8
    let x10 : Int := IntKind.i64.wrap (v3 + 1)
    again v1 s9 x10) none) none) none)
  (
    k0 v2)
noncomputable def lpR2Text_5 (k0 : ByteArray → Option Out) : Nat → (List Int) → ByteArray → Int → Option Out := iterF (fun a => lpR2Text_5s a k0) (fun _ _ _ => none)
noncomputable def LR2Text_5 : St → (Ex → St → Option Out) → Option Out := fun σ k => match σ with
  | ⟨[(q1, .cl (.sli .u32 v1)), (q2, .cl (.str v2)), (q3, .cl (.int .i64 v3))], []⟩ => cond (Nat.beq q1 0 && Nat.beq q2 3 && Nat.beq q3 4) (shut (lpR2Text_5 (fun y1 => k (.exit 0) ⟨[(3, .cl (.str y1))], []⟩) FUEL) v1 v2 v3) none
  | _ => none
noncomputable def ER2Text : Env := {
  orc := fun g => cond (Nat.beq g 11) (SR2Fit) (cond (Nat.beq g 31) (SR2Digits) (fun _ _ => Tree.fail))
  pre := fun g => cond (Nat.beq g 11) (preR2Fit) (cond (Nat.beq g 31) (preR2Digits) (fun _ _ => true))
  byref := fun _ => []
  keep := fun _ => false
  live := fun r => cond (Nat.beq r 5) ([0, 3, 4]) ([])
  ren := fun _ => []
  glob := glOid
  nt := 29
  lp := fun r => cond (Nat.beq r 5) (some (LR2Text_5)) (none)
  xl := fun r => cond (Nat.beq r 0) (some [2]) (cond (Nat.beq r 1) (some [3]) (none))
}
noncomputable def blpR2Text_5 : Code := (Cd.fst (Cd.fst (Cd.snd (Cd.fst (Cd.snd (Cd.snd (Cd.snd (Tryd.f19.body.getD .skip))))))))
theorem LR2Text_5_ok : LpOk Tryd.prog (ER2Text) 40 blpR2Text_5 5 LR2Text_5 := by
  intro σ k r h
  unfold LR2Text_5 at h
  split at h
  · replace h := cond_some h
    obtain ⟨hc, h⟩ := h
    simp only [Bool.and_eq_true, beq_prop, decide_eq_true_eq, Bool.not_eq_true'] at hc
    obtain ⟨⟨rfl, rfl⟩, rfl⟩ := hc
    rw [shut_eq] at h
    exact ⟨FUEL, iter_ok (F := fun n v1 v2 v3 => iterK n (codeK Tryd.prog (ER2Text) 40 blpR2Text_5) (head (ER2Text) 5) ⟨[(0, .cl (.sli .u32 v1)), (3, .cl (.str v2)), (4, .cl (.int .i64 v3))], []⟩ k) (Q := fun f => f _ _ _ = some r) rfl (fun n => by kernel_rfl) h⟩
  · cases h
theorem loopsR2Text : ∀ c, Tryd.f19.body = some c → LoopsOk Tryd.prog (ER2Text) 40 c := by
  intro c hc
  cases hc
  exact ⟨trivial, ⟨⟨trivial, ⟨⟨trivial, trivial, jn_none rfl⟩, trivial, jn_none rfl⟩, jn_none rfl⟩, ⟨trivial, ⟨⟨trivial, ⟨⟨⟨trivial, ⟨trivial, trivial, jn_none rfl⟩, jn_none rfl⟩, ⟨trivial, trivial, jn_none rfl⟩, jn_none rfl⟩, lp_some rfl (LR2Text_5_ok)⟩, jn_none rfl⟩, ⟨trivial, trivial, jn_none rfl⟩, jn_none rfl⟩, jn_none rfl⟩, jn_none rfl⟩, jn_none rfl⟩
noncomputable def gR2Text (o : List Int) : Option Out :=
  let r1 : Bool := oidFit o
  cond (!r1) (
    some (.ret [.cl (.str (⟨#[]⟩ : ByteArray))] []))
  (
    cond (decide ((0 : Int) < ((o.length : Nat) : Int))) (
    Option.bind (o[0]?) fun (e2 : Int) =>
    let x3 : Int := IntKind.u64.wrap e2
    cond (u64Ok x3) (
    let r4 : ByteArray := digS x3
    shut (lpR2Text_5
    (fun (y5 : ByteArray) =>
      some (.ret [.cl (.str y5)] []))
    FUEL) o r4 1) none) none)
theorem gR2Text_eq (o : List Int) : bodyK Tryd.prog (ER2Text) 40 false Tryd.f19 [.cl (.sli .u32 o)] [] = gR2Text o := by kernel_rfl
end Go.Proofs.YtgkedgpgfmibhaaDoorA

namespace Go.Proofs.YtgkedgpgfmibhaaDoorA
noncomputable def lpR2Number_3s (again : ByteArray → Int → Int → Int → Option Out) (k0 : Option Out) (k1 : ByteArray → Int → Int → Option Out) (v1 : ByteArray) (v2 : Int) (v3 : Int) (v4 : Int) : Option Out :=
  cond (decide (v4 < ((v1.size : Nat) : Int))) (
    idxK v4 v1.size fun _ =>
    let x1 : Int := bget v1 v4
    cond (decide (x1 < 48)) (
      k0)
    (
      idxK v4 v1.size fun _ =>
      let x2 : Int := bget v1 v4
      cond (decide ((57 : Int) < x2)) (
        k0)
      (
        cond (decide ((18 : Int) < v4)) (
          k0)
        (
          let x3 : Int := IntKind.u64.wrap (v3 * 10)
          idxK v4 v1.size fun _ =>
          let x4 : Int := bget v1 v4
          let x5 : Int := IntKind.u8.wrap (x4 - 48)
          let x6 : Int := IntKind.u64.wrap x5
          let x7 : Int := IntKind.u64.wrap (x3 + x6)
          let x8 : Int := IntKind.i64.wrap (v4 + 1)
          again v1 v2 x7 x8))))
  (
    k1 v1 v2 v3)
noncomputable def lpR2Number_3 (k0 : Option Out) (k1 : ByteArray → Int → Int → Option Out) : Nat → ByteArray → Int → Int → Int → Option Out := iterF (fun a => lpR2Number_3s a k0 k1) (fun _ _ _ _ => none)
noncomputable def LR2Number_3 : St → (Ex → St → Option Out) → Option Out := fun σ k => match σ with
  | ⟨[(q1, .cl (.str v1)), (q2, .cl (.int .u64 v2)), (q3, .cl (.int .u64 v3)), (q4, .cl (.int .i64 v4))], []⟩ => cond (Nat.beq q1 0 && Nat.beq q2 1 && Nat.beq q3 6 && Nat.beq q4 7) (shut (lpR2Number_3 (k .ret ⟨[(4, .cl (.int .u64 0)), (5, .cl (.bool false))], []⟩) (fun y1 y2 y3 => k (.exit 0) ⟨[(0, .cl (.str y1)), (1, .cl (.int .u64 y2)), (6, .cl (.int .u64 y3))], []⟩) FUEL) v1 v2 v3 v4) none
  | _ => none
noncomputable def ER2Number : Env := {
  orc := fun g => cond (Nat.beq g 31) (SR2Digits) (fun _ _ => Tree.fail)
  pre := fun g => cond (Nat.beq g 31) (preR2Digits) (fun _ _ => true)
  byref := fun _ => []
  keep := fun _ => false
  live := fun r => cond (Nat.beq r 3) ([0, 1, 6, 7]) ([])
  ren := fun _ => []
  glob := glOid
  nt := 46
  lp := fun r => cond (Nat.beq r 3) (some (LR2Number_3)) (none)
  xl := fun r => cond (Nat.beq r 0) (some [4, 5]) (cond (Nat.beq r 1) (some [0, 1, 6]) (none))
}
noncomputable def blpR2Number_3 : Code := (Cd.fst (Cd.fst (Cd.snd (Cd.fst (Cd.snd (Cd.snd (Tryd.f30.body.getD .skip)))))))
theorem LR2Number_3_ok : LpOk Tryd.prog (ER2Number) 40 blpR2Number_3 3 LR2Number_3 := by
  intro σ k r h
  unfold LR2Number_3 at h
  split at h
  · replace h := cond_some h
    obtain ⟨hc, h⟩ := h
    simp only [Bool.and_eq_true, beq_prop, decide_eq_true_eq, Bool.not_eq_true'] at hc
    obtain ⟨⟨⟨rfl, rfl⟩, rfl⟩, rfl⟩ := hc
    rw [shut_eq] at h
    exact ⟨FUEL, iter_ok (F := fun n v1 v2 v3 v4 => iterK n (codeK Tryd.prog (ER2Number) 40 blpR2Number_3) (head (ER2Number) 3) ⟨[(0, .cl (.str v1)), (1, .cl (.int .u64 v2)), (6, .cl (.int .u64 v3)), (7, .cl (.int .i64 v4))], []⟩ k) (Q := fun f => f _ _ _ _ = some r) rfl (fun n => by kernel_rfl) h⟩
  · cases h
theorem loopsR2Number : ∀ c, Tryd.f30.body = some c → LoopsOk Tryd.prog (ER2Number) 40 c := by
  intro c hc
  cases hc
  exact ⟨trivial, ⟨trivial, ⟨⟨trivial, ⟨⟨⟨trivial, ⟨trivial, trivial, jn_none rfl⟩, jn_none rfl⟩, ⟨⟨⟨trivial, ⟨⟨trivial, trivial, jn_none rfl⟩, trivial, jn_none rfl⟩, jn_none rfl⟩, trivial, jn_none rfl⟩, trivial, jn_none rfl⟩, jn_none rfl⟩, lp_some rfl (LR2Number_3_ok)⟩, jn_none rfl⟩, ⟨trivial, trivial, jn_none rfl⟩, jn_none rfl⟩, jn_none rfl⟩, jn_none rfl⟩
noncomputable def gR2Number (s : ByteArray) (n : Int) : Option Out :=
  shut (lpR2Number_3
  (
    some (.ret [.cl (.int .u64 0), .cl (.bool false)] []))
  (fun (y1 : ByteArray) (y2 : Int) (y3 : Int) =>
    cond (decide (y3 ≤ y2)) (
      cond (u64Ok y3) (
      let r4 : ByteArray := digS y3
      some (.ret [.cl (.int .u64 y3), .cl (.bool (r4.toList == y1.toList))] [])) none)
    (
      some (.ret [.cl (.int .u64 y3), .cl (.bool false)] [])))
  FUEL) s n 0 0
theorem gR2Number_eq (s : ByteArray) (n : Int) : bodyK Tryd.prog (ER2Number) 40 false Tryd.f30 [.cl (.str s), .cl (.int .u64 n)] [] = gR2Number s n := by kernel_rfl
end Go.Proofs.YtgkedgpgfmibhaaDoorA

namespace Go.Proofs.YtgkedgpgfmibhaaDoorA
noncomputable def lpORead_5s (again : ByteArray → Nat → (List CV) → Int → Int → (List Int) → Option Out) (k0 : Option Out) (k1 : ByteArray → Nat → (List Int) → Option Out) (v1 : ByteArray) (v2 : Nat) (v3 : List CV) (v4 : Int) (v5 : Int) (v6 : List Int) : Option Out :=
  cond (decide (v5 < v4)) (
    getK v3 v5 fun e3 =>
    let e4 : CV := (cell1 e3).getD 0 .nili
    cond (okStr e4) (
    let s5 : ByteArray := cvStr e4
    cond (sizeOk s5) (
    cond (!(puOk s5)) (
      k0)
    (
      let r7 : Int := puVal s5
      let x8 : Int := IntKind.u32.wrap r7
      let l9 : List Int := v6 ++ [x8]
      rmK l9.length 4 <|
      let x10 : Int := IntKind.i64.wrap (v5 + 1)
      again v1 l9.length v3 v4 x10 l9)) none) none)
  (
    k1 v1 v2 v6)
noncomputable def lpORead_5 (k0 : Option Out) (k1 : ByteArray → Nat → (List Int) → Option Out) : Nat → ByteArray → Nat → (List CV) → Int → Int → (List Int) → Option Out := iterF (fun a => lpORead_5s a k0 k1) (fun _ _ _ _ _ _ => none)
noncomputable def LORead_5 : St → (Ex → St → Option Out) → Option Out := fun σ k => match σ with
  | ⟨[(q1, .cl (.str v1)), (q2, .ref q3 q4 v2 true q5), (q6, .cl (.slg q7 v3)), (q8, .cl (.int .i64 v4)), (q9, .cl (.int .i64 v5))], [(q10, ⟨.ints .u32 v6, false⟩)]⟩ => cond (Nat.beq q1 0 && Nat.beq q2 4 && Nat.beq q3 68 && Nat.beq q4 0 && Nat.beq q5 1 && Nat.beq q6 13 && Nat.beq q7 1 && Nat.beq q8 14 && Nat.beq q9 15 && Nat.beq q10 68) (shut (lpORead_5 (k .ret ⟨[(2, .ref 66 0 0 true 1), (3, .cl (.int .i64 1))], [(66, ⟨.ints .u32 [], false⟩)]⟩) (fun y1 y2 y3 => k (.exit 0) ⟨[(0, .cl (.str y1)), (4, .ref 68 0 y2 true 1)], [(68, ⟨.ints .u32 y3, false⟩)]⟩) FUEL) v1 v2 v3 v4 v5 v6) none
  | _ => none
noncomputable def EORead : Env := {
  orc := fun g => cond (Nat.beq g 10) (SOFit) (cond (Nat.beq g 17) (SOText) (cond (Nat.beq g 25) (SSCount) (cond (Nat.beq g 26) (SSSplit) (cond (Nat.beq g 27) (SSParse) (fun _ _ => Tree.fail)))))
  pre := fun g => cond (Nat.beq g 10) (preOFit) (cond (Nat.beq g 17) (preOText) (cond (Nat.beq g 25) (preSCount) (cond (Nat.beq g 26) (preSSplit) (cond (Nat.beq g 27) (preSParse) (fun _ _ => true)))))
  byref := fun _ => []
  keep := fun _ => false
  live := fun r => cond (Nat.beq r 5) ([0, 4, 13, 14, 15]) ([])
  ren := fun r => cond (Nat.beq r 5) ([(94, 68)]) ([])
  glob := glOid
  nt := 42
  lp := fun r => cond (Nat.beq r 5) (some (LORead_5)) (none)
  xl := fun r => cond (Nat.beq r 0) (some [2, 3]) (cond (Nat.beq r 1) (some [0, 4]) (none))
}
noncomputable def blpORead_5 : Code := (Cd.fst (Cd.fst (Cd.snd (Cd.fst (Cd.snd (Cd.snd (Cd.snd (Tryd.f16.body.getD .skip))))))))
theorem LORead_5_ok : LpOk Tryd.prog (EORead) 40 blpORead_5 5 LORead_5 := by
  intro σ k r h
  unfold LORead_5 at h
  split at h
  · replace h := cond_some h
    obtain ⟨hc, h⟩ := h
    simp only [Bool.and_eq_true, beq_prop, decide_eq_true_eq, Bool.not_eq_true'] at hc
    obtain ⟨⟨⟨⟨⟨⟨⟨⟨⟨rfl, rfl⟩, rfl⟩, rfl⟩, rfl⟩, rfl⟩, rfl⟩, rfl⟩, rfl⟩, rfl⟩ := hc
    rw [shut_eq] at h
    exact ⟨FUEL, iter_ok (F := fun n v1 v2 v3 v4 v5 v6 => iterK n (codeK Tryd.prog (EORead) 40 blpORead_5) (head (EORead) 5) ⟨[(0, .cl (.str v1)), (4, .ref 68 0 v2 true 1), (13, .cl (.slg 1 v3)), (14, .cl (.int .i64 v4)), (15, .cl (.int .i64 v5))], [(68, ⟨.ints .u32 v6, false⟩)]⟩ k) (Q := fun f => f _ _ _ _ _ _ = some r) rfl (fun n => by kernel_rfl) h⟩
  · cases h
theorem loopsORead : ∀ c, Tryd.f16.body = some c → LoopsOk Tryd.prog (EORead) 40 c := by
  intro c hc
  cases hc
  exact ⟨trivial, ⟨trivial, ⟨⟨trivial, ⟨⟨trivial, trivial, jn_none rfl⟩, trivial, jn_none rfl⟩, jn_none rfl⟩, ⟨⟨trivial, ⟨⟨trivial, ⟨⟨trivial, trivial, jn_none rfl⟩, ⟨⟨trivial, ⟨trivial, ⟨⟨trivial, ⟨⟨trivial, trivial, jn_none rfl⟩, trivial, jn_none rfl⟩, jn_none rfl⟩, trivial, jn_none rfl⟩, jn_none rfl⟩, jn_none rfl⟩, trivial, jn_none rfl⟩, jn_none rfl⟩, jn_none rfl⟩, lp_some rfl (LORead_5_ok)⟩, jn_none rfl⟩, ⟨⟨trivial, ⟨⟨trivial, trivial, jn_none rfl⟩, trivial, jn_none rfl⟩, jn_none rfl⟩, ⟨trivial, trivial, jn_none rfl⟩, jn_none rfl⟩, jn_none rfl⟩, jn_none rfl⟩, jn_none rfl⟩, jn_none rfl⟩
noncomputable def gORead (s : ByteArray) : Option Out :=
  cond (dotOk (⟨#[46]⟩ : ByteArray)) (
  let r1 : Int := dotCount s
  cond (decide ((20 : Int) ≤ r1)) (
    some (.ret [.cl (.sli .u32 []), .cl (.int .i64 1)] []))
  (
    cond (dotOk (⟨#[46]⟩ : ByteArray) && sizeOk s) (
    let r2 : List CV := dotSplit s
    shut (lpORead_5
    (
      some (.ret [.cl (.sli .u32 []), .cl (.int .i64 1)] []))
    (fun (y3 : ByteArray) (y4 : Nat) (y5 : List Int) =>
      cond (u32sOk y5) (
      let r6 : ByteArray := oidText y5
      cond (!(r6.toList == y3.toList)) (
        some (.ret [.cl (.sli .u32 []), .cl (.int .i64 1)] []))
      (
        let r7 : Bool := oidFit y5
        cond (!r7) (
          some (.ret [.cl (.sli .u32 []), .cl (.int .i64 1)] []))
        (
          some (.ret [.cl (.sli .u32 y5), .cl (.int .i64 0)] [])))) none)
    FUEL) s 0 r2 ((r2.length : Nat) : Int) 0 []) none)) none
theorem gORead_eq (s : ByteArray) : bodyK Tryd.prog (EORead) 40 false Tryd.f16 [.cl (.str s)] [] = gORead s := by kernel_rfl
end Go.Proofs.YtgkedgpgfmibhaaDoorA

namespace Go.Proofs.YtgkedgpgfmibhaaDoorA
noncomputable def lpR2Read_4s (again : ByteArray → Nat → Int → Int → (List Int) → Option Out) (k0 : Option Out) (k1 : Nat → (List Int) → Option Out) (v1 : ByteArray) (v2 : Nat) (v3 : Int) (v4 : Int) (v5 : List Int) : Option Out :=
  cond (decide (v4 ≤ ((v1.size : Nat) : Int))) (
    cond (decide (v4 < ((v1.size : Nat) : Int))) (
      idxK v4 v1.size fun _ =>
      let x1 : Int := bget v1 v4
      cond (!decide (x1 = 46)) (
        let x2 : Int := IntKind.i64.wrap (v4 + 1)
        again v1 v2 v3 x2 v5)
      (
        cond (decide ((0 : Int) ≤ v3)) (
        cond (decide (v3 ≤ v4)) (
        cond (decide (v4 ≤ ((v1.size : Nat) : Int))) (
        let s3 : ByteArray := v1.extract (Int.toNat v3) (Int.toNat v4)
        cond (sizeOk s3 && u32Ok 4294967295) (
        let r4 : Int := (refNum s3 4294967295).1
        let r5 : Bool := (refNum s3 4294967295).2
        cond (!r5) (
          k0)
        (
          cond (decide (((v2 : Nat) : Int) = 20)) (
            k0)
          (
            let x6 : Int := IntKind.u32.wrap r4
            let l7 : List Int := v5 ++ [x6]
            rmK l7.length 4 <|
            let x8 : Int := IntKind.i64.wrap (v4 + 1)
            let x9 : Int := IntKind.i64.wrap (v4 + 1)
            again v1 l7.length x8 x9 l7))) none) none) none) none))
    (
      cond (decide ((0 : Int) ≤ v3)) (
      cond (decide (v3 ≤ v4)) (
      cond (decide (v4 ≤ ((v1.size : Nat) : Int))) (
      let s10 : ByteArray := v1.extract (Int.toNat v3) (Int.toNat v4)
      cond (sizeOk s10 && u32Ok 4294967295) (
      let r11 : Int := (refNum s10 4294967295).1
      let r12 : Bool := (refNum s10 4294967295).2
      cond (!r12) (
        k0)
      (
        cond (decide (((v2 : Nat) : Int) = 20)) (
          k0)
        (
          let x13 : Int := IntKind.u32.wrap r11
          let l14 : List Int := v5 ++ [x13]
          rmK l14.length 4 <|
          let x15 : Int := IntKind.i64.wrap (v4 + 1)
          let x16 : Int := IntKind.i64.wrap (v4 + 1)
          again v1 l14.length x15 x16 l14))) none) none) none) none))
  (
    k1 v2 v5)
noncomputable def lpR2Read_4 (k0 : Option Out) (k1 : Nat → (List Int) → Option Out) : Nat → ByteArray → Nat → Int → Int → (List Int) → Option Out := iterF (fun a => lpR2Read_4s a k0 k1) (fun _ _ _ _ _ => none)
noncomputable def LR2Read_4 : St → (Ex → St → Option Out) → Option Out := fun σ k => match σ with
  | ⟨[(q1, .cl (.str v1)), (q2, .ref q3 q4 v2 true q5), (q6, .cl (.int .i64 v3)), (q7, .cl (.int .i64 v4))], [(q8, ⟨.ints .u32 v5, false⟩)]⟩ => cond (Nat.beq q1 0 && Nat.beq q2 4 && Nat.beq q3 68 && Nat.beq q4 0 && Nat.beq q5 1 && Nat.beq q6 5 && Nat.beq q7 6 && Nat.beq q8 68) (shut (lpR2Read_4 (k .ret ⟨[(2, .ref 66 0 0 true 1), (3, .cl (.int .i64 1))], [(66, ⟨.ints .u32 [], false⟩)]⟩) (fun y1 y2 => k (.exit 0) ⟨[(4, .ref 68 0 y1 true 1)], [(68, ⟨.ints .u32 y2, false⟩)]⟩) FUEL) v1 v2 v3 v4 v5) none
  | _ => none
noncomputable def ER2Read : Env := {
  orc := fun g => cond (Nat.beq g 11) (SR2Fit) (cond (Nat.beq g 30) (SR2Number) (fun _ _ => Tree.fail))
  pre := fun g => cond (Nat.beq g 11) (preR2Fit) (cond (Nat.beq g 30) (preR2Number) (fun _ _ => true))
  byref := fun _ => []
  keep := fun _ => false
  live := fun r => cond (Nat.beq r 4) ([0, 4, 5, 6]) ([])
  ren := fun r => cond (Nat.beq r 4) ([(108, 68)]) ([])
  glob := glOid
  nt := 51
  lp := fun r => cond (Nat.beq r 4) (some (LR2Read_4)) (none)
  xl := fun r => cond (Nat.beq r 0) (some [2, 3]) (cond (Nat.beq r 1) (some [4]) (cond (Nat.beq r 2) (some [0, 4, 5, 6]) (none)))
}
noncomputable def blpR2Read_4 : Code := (Cd.fst (Cd.fst (Cd.snd (Cd.fst (Cd.snd (Cd.snd (Cd.snd (Tryd.f18.body.getD .skip))))))))
theorem LR2Read_4_ok : LpOk Tryd.prog (ER2Read) 40 blpR2Read_4 4 LR2Read_4 := by
  intro σ k r h
  unfold LR2Read_4 at h
  split at h
  · replace h := cond_some h
    obtain ⟨hc, h⟩ := h
    simp only [Bool.and_eq_true, beq_prop, decide_eq_true_eq, Bool.not_eq_true'] at hc
    obtain ⟨⟨⟨⟨⟨⟨⟨rfl, rfl⟩, rfl⟩, rfl⟩, rfl⟩, rfl⟩, rfl⟩, rfl⟩ := hc
    rw [shut_eq] at h
    exact ⟨FUEL, iter_ok (F := fun n v1 v2 v3 v4 v5 => iterK n (codeK Tryd.prog (ER2Read) 40 blpR2Read_4) (head (ER2Read) 4) ⟨[(0, .cl (.str v1)), (4, .ref 68 0 v2 true 1), (5, .cl (.int .i64 v3)), (6, .cl (.int .i64 v4))], [(68, ⟨.ints .u32 v5, false⟩)]⟩ k) (Q := fun f => f _ _ _ _ _ = some r) rfl (fun n => by kernel_rfl) h⟩
  · cases h
theorem loopsR2Read : ∀ c, Tryd.f18.body = some c → LoopsOk Tryd.prog (ER2Read) 40 c := by
  intro c hc
  cases hc
  exact ⟨trivial, ⟨trivial, ⟨trivial, ⟨⟨trivial, ⟨⟨⟨trivial, ⟨trivial, trivial, jn_none rfl⟩, jn_none rfl⟩, ⟨⟨⟨trivial, ⟨trivial, trivial, jn_none rfl⟩, jn_none rfl⟩, ⟨trivial, ⟨⟨trivial, ⟨⟨trivial, trivial, jn_none rfl⟩, trivial, jn_none rfl⟩, jn_none rfl⟩, ⟨trivial, trivial, jn_none rfl⟩, jn_none rfl⟩, jn_none rfl⟩, jn_none rfl⟩, trivial, jn_none rfl⟩, jn_none rfl⟩, lp_some rfl (LR2Read_4_ok)⟩, jn_none rfl⟩, ⟨⟨trivial, ⟨⟨trivial, trivial, jn_none rfl⟩, trivial, jn_none rfl⟩, jn_none rfl⟩, ⟨trivial, trivial, jn_none rfl⟩, jn_none rfl⟩, jn_none rfl⟩, jn_none rfl⟩, jn_none rfl⟩, jn_none rfl⟩
noncomputable def gR2Read (s : ByteArray) : Option Out :=
  shut (lpR2Read_4
  (
    some (.ret [.cl (.sli .u32 []), .cl (.int .i64 1)] []))
  (fun (y1 : Nat) (y2 : List Int) =>
    let r3 : Bool := oidFit y2
    cond (!r3) (
      some (.ret [.cl (.sli .u32 []), .cl (.int .i64 1)] []))
    (
      some (.ret [.cl (.sli .u32 y2), .cl (.int .i64 0)] [])))
  FUEL) s 0 0 0 []
theorem gR2Read_eq (s : ByteArray) : bodyK Tryd.prog (ER2Read) 40 false Tryd.f18 [.cl (.str s)] [] = gR2Read s := by kernel_rfl
end Go.Proofs.YtgkedgpgfmibhaaDoorA

namespace Go.Proofs.YtgkedgpgfmibhaaDoorA
noncomputable def ELAwake : Env := {
  orc := fun g => cond (Nat.beq g 8) (SOParse) (cond (Nat.beq g 12) (SR1Same) (cond (Nat.beq g 13) (SOBytes) (cond (Nat.beq g 16) (SORead) (fun _ _ => Tree.fail))))
  pre := fun g => cond (Nat.beq g 8) (preOParse) (cond (Nat.beq g 12) (preR1Same) (cond (Nat.beq g 13) (preOBytes) (cond (Nat.beq g 16) (preORead) (fun _ _ => true))))
  byref := fun _ => []
  keep := fun _ => false
  live := fun _ => []
  ren := fun _ => []
  glob := glOid
  nt := 26
  lp := fun _ => none
  xl := fun r => cond (Nat.beq r 0) (some [0]) (none)
}
theorem loopsLAwake : ∀ c, Tryd.f7.body = some c → LoopsOk Tryd.prog (ELAwake) 40 c := by
  intro c hc
  cases hc
  exact ⟨trivial, ⟨trivial, ⟨trivial, ⟨trivial, trivial, jn_none rfl⟩, jn_none rfl⟩, jn_none rfl⟩, jn_none rfl⟩
noncomputable def gLAwake  : Option Out :=
  cond (bytesOk [128, 1]) (
  let r2 : Int := (oidParse [128, 1]).2
  cond (sizeOk (⟨#[49, 46, 52, 48]⟩ : ByteArray)) (
  let r4 : Int := (oidRead (⟨#[49, 46, 52, 48]⟩ : ByteArray)).2
  cond (u32sOk [1, 2, 840]) (
  let r5 : List Int := oidBytes [1, 2, 840]
  cond (lenOk r5) (
  let r6 : Bool := listSame r5 [42, 134, 72]
  cond (r6) (
    cond (decide (r2 = 5)) (
      some (.ret [.cl (.bool (decide (r4 = 1)))] []))
    (
      some (.ret [.cl (.bool false)] [])))
  (
    some (.ret [.cl (.bool false)] []))) none) none) none) none
theorem gLAwake_eq  : bodyK Tryd.prog (ELAwake) 40 false Tryd.f7 [] [] = gLAwake  := by kernel_rfl
end Go.Proofs.YtgkedgpgfmibhaaDoorA

namespace Go.Proofs.YtgkedgpgfmibhaaDoorA
noncomputable def ELTells : Env := {
  orc := fun g => cond (Nat.beq g 7) (SLAwake) (cond (Nat.beq g 8) (SOParse) (cond (Nat.beq g 9) (SR2Parse) (cond (Nat.beq g 10) (SOFit) (cond (Nat.beq g 11) (SR2Fit) (cond (Nat.beq g 12) (SR1Same) (cond (Nat.beq g 13) (SOBytes) (cond (Nat.beq g 14) (SR2Bytes) (cond (Nat.beq g 15) (SR2Same) (fun _ _ => Tree.fail)))))))))
  pre := fun g => cond (Nat.beq g 7) (preLAwake) (cond (Nat.beq g 8) (preOParse) (cond (Nat.beq g 9) (preR2Parse) (cond (Nat.beq g 10) (preOFit) (cond (Nat.beq g 11) (preR2Fit) (cond (Nat.beq g 12) (preR1Same) (cond (Nat.beq g 13) (preOBytes) (cond (Nat.beq g 14) (preR2Bytes) (cond (Nat.beq g 15) (preR2Same) (fun _ _ => true)))))))))
  byref := fun _ => []
  keep := fun _ => false
  live := fun _ => []
  ren := fun _ => []
  glob := glOid
  nt := 53
  lp := fun _ => none
  xl := fun r => cond (Nat.beq r 0) (some [4]) (none)
}
theorem loopsLTells : ∀ c, Tryd.f3.body = some c → LoopsOk Tryd.prog (ELTells) 40 c := by
  intro c hc
  cases hc
  exact ⟨trivial, ⟨⟨trivial, ⟨⟨trivial, trivial, jn_none rfl⟩, trivial, jn_none rfl⟩, jn_none rfl⟩, ⟨trivial, ⟨trivial, ⟨trivial, trivial, jn_none rfl⟩, jn_none rfl⟩, jn_none rfl⟩, jn_none rfl⟩, jn_none rfl⟩
noncomputable def gLTells (o : List Int) (b : List Int) : Option Out :=
  cond (decide ((100 : Int) < ((o.length : Nat) : Int))) (
    let r1 : Bool := true
    some (.ret [.cl (.bool r1)] []))
  (
    cond (decide ((300 : Int) < ((b.length : Nat) : Int))) (
      let r2 : Bool := true
      some (.ret [.cl (.bool r2)] []))
    (
      cond (bytesOk b) (
      let r3 : List Int := (oidParse b).1
      let r4 : Int := (oidParse b).2
      cond (bytesOk b) (
      let r5 : List Int := (oidParse b).1
      let r6 : Int := (oidParse b).2
      let r7 : Bool := oidFit o
      let r8 : Bool := oidFit o
      cond ((r7 == r8)) (
        cond (u32sOk o) (
        let r9 : List Int := oidBytes o
        cond (u32sOk o) (
        let r10 : List Int := oidBytes o
        cond (lenOk r9) (
        let r11 : Bool := listSame r9 r10
        cond (r11) (
          cond (lenOk r3) (
          let r12 : Bool := listSame r3 r5
          cond (r12) (
            cond (decide (r4 = r6)) (
              let r13 : Bool := true
              some (.ret [.cl (.bool r13)] []))
            (
              some (.ret [.cl (.bool false)] [])))
          (
            some (.ret [.cl (.bool false)] []))) none)
        (
          some (.ret [.cl (.bool false)] []))) none) none) none)
      (
        some (.ret [.cl (.bool false)] []))) none) none))
theorem gLTells_eq (o : List Int) (b : List Int) : bodyK Tryd.prog (ELTells) 40 false Tryd.f3 [.cl (.sli .u32 o), .cl (.sli .u8 b)] [] = gLTells o b := by kernel_rfl
end Go.Proofs.YtgkedgpgfmibhaaDoorA

namespace Go.Proofs.YtgkedgpgfmibhaaDoorA
noncomputable def ELTexts : Env := {
  orc := fun g => cond (Nat.beq g 7) (SLAwake) (cond (Nat.beq g 15) (SR2Same) (cond (Nat.beq g 16) (SORead) (cond (Nat.beq g 17) (SOText) (cond (Nat.beq g 18) (SR2Read) (cond (Nat.beq g 19) (SR2Text) (cond (Nat.beq g 20) (SOSame) (fun _ _ => Tree.fail)))))))
  pre := fun g => cond (Nat.beq g 7) (preLAwake) (cond (Nat.beq g 15) (preR2Same) (cond (Nat.beq g 16) (preORead) (cond (Nat.beq g 17) (preOText) (cond (Nat.beq g 18) (preR2Read) (cond (Nat.beq g 19) (preR2Text) (cond (Nat.beq g 20) (preOSame) (fun _ _ => true)))))))
  byref := fun _ => []
  keep := fun _ => false
  live := fun _ => []
  ren := fun _ => []
  glob := glOid
  nt := 65
  lp := fun _ => none
  xl := fun r => cond (Nat.beq r 0) (some [6]) (none)
}
theorem loopsLTexts : ∀ c, Tryd.f6.body = some c → LoopsOk Tryd.prog (ELTexts) 40 c := by
  intro c hc
  cases hc
  exact ⟨trivial, ⟨⟨trivial, ⟨⟨trivial, trivial, jn_none rfl⟩, trivial, jn_none rfl⟩, jn_none rfl⟩, ⟨trivial, ⟨trivial, ⟨trivial, trivial, jn_none rfl⟩, jn_none rfl⟩, jn_none rfl⟩, jn_none rfl⟩, jn_none rfl⟩
noncomputable def gLTexts (o : List Int) (p : List Int) (s : ByteArray) : Option Out :=
  let x1 : Int := IntKind.i64.wrap (((o.length : Nat) : Int) + ((p.length : Nat) : Int))
  cond (decide ((100 : Int) < x1)) (
    let r2 : Bool := true
    some (.ret [.cl (.bool r2)] []))
  (
    cond (decide ((400 : Int) < ((s.size : Nat) : Int))) (
      let r3 : Bool := true
      some (.ret [.cl (.bool r3)] []))
    (
      cond (sizeOk s) (
      let r4 : List Int := (oidRead s).1
      let r5 : Int := (oidRead s).2
      cond (sizeOk s) (
      let r6 : List Int := (oidRead s).1
      let r7 : Int := (oidRead s).2
      cond (u32sOk o) (
      let r8 : ByteArray := oidText o
      cond (u32sOk o) (
      let r9 : ByteArray := oidText o
      cond ((r8.toList == r9.toList)) (
        cond (lenOk r4) (
        let r10 : Bool := listSame r4 r6
        cond (r10) (
          cond (decide (r5 = r7)) (
            cond (lenOk o) (
            let r11 : Bool := listSame o p
            cond (lenOk o) (
            let r12 : Bool := listSame o p
            cond ((r11 == r12)) (
              cond (lenOk o) (
              let r13 : Bool := listSame o o
              cond (r13) (
                let r14 : Bool := true
                some (.ret [.cl (.bool r14)] []))
              (
                some (.ret [.cl (.bool false)] []))) none)
            (
              some (.ret [.cl (.bool false)] []))) none) none)
          (
            some (.ret [.cl (.bool false)] [])))
        (
          some (.ret [.cl (.bool false)] []))) none)
      (
        some (.ret [.cl (.bool false)] []))) none) none) none) none))
theorem gLTexts_eq (o : List Int) (p : List Int) (s : ByteArray) : bodyK Tryd.prog (ELTexts) 40 false Tryd.f6 [.cl (.sli .u32 o), .cl (.sli .u32 p), .cl (.str s)] [] = gLTexts o p s := by kernel_rfl
end Go.Proofs.YtgkedgpgfmibhaaDoorA

namespace Go.Proofs.YtgkedgpgfmibhaaDoorA
noncomputable def ELBack : Env := {
  orc := fun g => cond (Nat.beq g 7) (SLAwake) (cond (Nat.beq g 8) (SOParse) (cond (Nat.beq g 11) (SR2Fit) (cond (Nat.beq g 12) (SR1Same) (cond (Nat.beq g 13) (SOBytes) (cond (Nat.beq g 15) (SR2Same) (cond (Nat.beq g 16) (SORead) (cond (Nat.beq g 17) (SOText) (fun _ _ => Tree.fail))))))))
  pre := fun g => cond (Nat.beq g 7) (preLAwake) (cond (Nat.beq g 8) (preOParse) (cond (Nat.beq g 11) (preR2Fit) (cond (Nat.beq g 12) (preR1Same) (cond (Nat.beq g 13) (preOBytes) (cond (Nat.beq g 15) (preR2Same) (cond (Nat.beq g 16) (preORead) (cond (Nat.beq g 17) (preOText) (fun _ _ => true))))))))
  byref := fun _ => []
  keep := fun _ => false
  live := fun _ => []
  ren := fun _ => []
  glob := glOid
  nt := 91
  lp := fun _ => none
  xl := fun r => cond (Nat.beq r 0) (some [6]) (none)
}
theorem loopsLBack : ∀ c, Tryd.f4.body = some c → LoopsOk Tryd.prog (ELBack) 40 c := by
  intro c hc
  cases hc
  exact ⟨trivial, ⟨⟨trivial, ⟨⟨trivial, trivial, jn_none rfl⟩, trivial, jn_none rfl⟩, jn_none rfl⟩, ⟨⟨trivial, ⟨⟨trivial, ⟨trivial, ⟨trivial, ⟨⟨trivial, trivial, jn_none rfl⟩, trivial, jn_none rfl⟩, jn_none rfl⟩, jn_none rfl⟩, jn_none rfl⟩, trivial, jn_none rfl⟩, jn_none rfl⟩, ⟨⟨trivial, ⟨trivial, ⟨⟨trivial, trivial, jn_none rfl⟩, trivial, jn_none rfl⟩, jn_none rfl⟩, jn_none rfl⟩, ⟨trivial, ⟨trivial, trivial, jn_none rfl⟩, jn_none rfl⟩, jn_none rfl⟩, jn_none rfl⟩, jn_none rfl⟩, jn_none rfl⟩
noncomputable def gLBack (o : List Int) (b : List Int) (s : ByteArray) : Option Out :=
  cond (decide ((100 : Int) < ((o.length : Nat) : Int))) (
    let r1 : Bool := true
    some (.ret [.cl (.bool r1)] []))
  (
    cond (decide ((300 : Int) < ((b.length : Nat) : Int))) (
      let r2 : Bool := true
      some (.ret [.cl (.bool r2)] []))
    (
      cond (decide ((400 : Int) < ((s.size : Nat) : Int))) (
        let r3 : Bool := true
        some (.ret [.cl (.bool r3)] []))
      (
        let r4 : Bool := oidFit o
        cond (r4) (
          cond (u32sOk o) (
          let r5 : List Int := oidBytes o
          cond (bytesOk r5) (
          let r6 : List Int := (oidParse r5).1
          let r7 : Int := (oidParse r5).2
          cond (u32sOk o) (
          let r8 : ByteArray := oidText o
          cond (sizeOk r8) (
          let r9 : List Int := (oidRead r8).1
          let r10 : Int := (oidRead r8).2
          cond (!decide (r7 = 0)) (
            some (.ret [.cl (.bool false)] []))
          (
            cond (!decide (r10 = 0)) (
              some (.ret [.cl (.bool false)] []))
            (
              cond (lenOk r6) (
              let r11 : Bool := listSame r6 o
              cond (!r11) (
                some (.ret [.cl (.bool false)] []))
              (
                cond (lenOk r9) (
                let r12 : Bool := listSame r9 o
                cond (!r12) (
                  some (.ret [.cl (.bool false)] []))
                (
                  cond (bytesOk b) (
                  let r13 : List Int := (oidParse b).1
                  let r14 : Int := (oidParse b).2
                  cond (decide (r14 = 0)) (
                    cond (u32sOk r13) (
                    let r15 : List Int := oidBytes r13
                    cond (lenOk r15) (
                    let r16 : Bool := listSame r15 b
                    cond (!r16) (
                      some (.ret [.cl (.bool false)] []))
                    (
                      cond (sizeOk s) (
                      let r17 : List Int := (oidRead s).1
                      let r18 : Int := (oidRead s).2
                      cond (!decide (r18 = 0)) (
                        let r19 : Bool := true
                        some (.ret [.cl (.bool r19)] []))
                      (
                        cond (u32sOk r17) (
                        let r20 : ByteArray := oidText r17
                        cond ((r20.toList == s.toList)) (
                          let r21 : Bool := true
                          some (.ret [.cl (.bool r21)] []))
                        (
                          some (.ret [.cl (.bool false)] []))) none)) none)) none) none)
                  (
                    cond (sizeOk s) (
                    let r22 : List Int := (oidRead s).1
                    let r23 : Int := (oidRead s).2
                    cond (!decide (r23 = 0)) (
                      let r24 : Bool := true
                      some (.ret [.cl (.bool r24)] []))
                    (
                      cond (u32sOk r22) (
                      let r25 : ByteArray := oidText r22
                      cond ((r25.toList == s.toList)) (
                        let r26 : Bool := true
                        some (.ret [.cl (.bool r26)] []))
                      (
                        some (.ret [.cl (.bool false)] []))) none)) none)) none)) none)) none))) none) none) none) none)
        (
          cond (bytesOk b) (
          let r27 : List Int := (oidParse b).1
          let r28 : Int := (oidParse b).2
          cond (decide (r28 = 0)) (
            cond (u32sOk r27) (
            let r29 : List Int := oidBytes r27
            cond (lenOk r29) (
            let r30 : Bool := listSame r29 b
            cond (!r30) (
              some (.ret [.cl (.bool false)] []))
            (
              cond (sizeOk s) (
              let r31 : List Int := (oidRead s).1
              let r32 : Int := (oidRead s).2
              cond (!decide (r32 = 0)) (
                let r33 : Bool := true
                some (.ret [.cl (.bool r33)] []))
              (
                cond (u32sOk r31) (
                let r34 : ByteArray := oidText r31
                cond ((r34.toList == s.toList)) (
                  let r35 : Bool := true
                  some (.ret [.cl (.bool r35)] []))
                (
                  some (.ret [.cl (.bool false)] []))) none)) none)) none) none)
          (
            cond (sizeOk s) (
            let r36 : List Int := (oidRead s).1
            let r37 : Int := (oidRead s).2
            cond (!decide (r37 = 0)) (
              let r38 : Bool := true
              some (.ret [.cl (.bool r38)] []))
            (
              cond (u32sOk r36) (
              let r39 : ByteArray := oidText r36
              cond ((r39.toList == s.toList)) (
                let r40 : Bool := true
                some (.ret [.cl (.bool r40)] []))
              (
                some (.ret [.cl (.bool false)] []))) none)) none)) none))))
theorem gLBack_eq (o : List Int) (b : List Int) (s : ByteArray) : bodyK Tryd.prog (ELBack) 40 false Tryd.f4 [.cl (.sli .u32 o), .cl (.sli .u8 b), .cl (.str s)] [] = gLBack o b s := by kernel_rfl
end Go.Proofs.YtgkedgpgfmibhaaDoorA

namespace Go.Proofs.YtgkedgpgfmibhaaDoorA
noncomputable def ELUnlike : Env := {
  orc := fun g => cond (Nat.beq g 7) (SLAwake) (cond (Nat.beq g 11) (SR2Fit) (cond (Nat.beq g 12) (SR1Same) (cond (Nat.beq g 13) (SOBytes) (cond (Nat.beq g 15) (SR2Same) (fun _ _ => Tree.fail)))))
  pre := fun g => cond (Nat.beq g 7) (preLAwake) (cond (Nat.beq g 11) (preR2Fit) (cond (Nat.beq g 12) (preR1Same) (cond (Nat.beq g 13) (preOBytes) (cond (Nat.beq g 15) (preR2Same) (fun _ _ => true)))))
  byref := fun _ => []
  keep := fun _ => false
  live := fun _ => []
  ren := fun _ => []
  glob := glOid
  nt := 65
  lp := fun _ => none
  xl := fun r => cond (Nat.beq r 0) (some [4]) (none)
}
theorem loopsLUnlike : ∀ c, Tryd.f5.body = some c → LoopsOk Tryd.prog (ELUnlike) 40 c := by
  intro c hc
  cases hc
  exact ⟨trivial, ⟨⟨trivial, ⟨⟨trivial, trivial, jn_none rfl⟩, trivial, jn_none rfl⟩, jn_none rfl⟩, ⟨trivial, ⟨⟨trivial, ⟨⟨trivial, trivial, jn_none rfl⟩, trivial, jn_none rfl⟩, jn_none rfl⟩, ⟨⟨trivial, ⟨⟨trivial, trivial, jn_none rfl⟩, trivial, jn_none rfl⟩, jn_none rfl⟩, ⟨trivial, trivial, jn_none rfl⟩, jn_none rfl⟩, jn_none rfl⟩, jn_none rfl⟩, jn_none rfl⟩, jn_none rfl⟩
noncomputable def gLUnlike (o : List Int) (p : List Int) : Option Out :=
  let x1 : Int := IntKind.i64.wrap (((o.length : Nat) : Int) + ((p.length : Nat) : Int))
  cond (decide ((100 : Int) < x1)) (
    let r2 : Bool := true
    some (.ret [.cl (.bool r2)] []))
  (
    let r3 : Bool := oidFit o
    cond (!r3) (
      let r4 : Bool := true
      some (.ret [.cl (.bool r4)] []))
    (
      let r5 : Bool := oidFit p
      cond (!r5) (
        let r6 : Bool := true
        some (.ret [.cl (.bool r6)] []))
      (
        cond (u32sOk o) (
        let r7 : List Int := oidBytes o
        cond (u32sOk p) (
        let r8 : List Int := oidBytes p
        cond (lenOk r7) (
        let r9 : Bool := listSame r7 r8
        cond (lenOk o) (
        let r10 : Bool := listSame o p
        cond (!(r9 == r10)) (
          some (.ret [.cl (.bool false)] []))
        (
          cond (decide (((r7.length : Nat) : Int) ≤ ((r8.length : Nat) : Int))) (
            cond (decide ((0 : Int) ≤ ((r7.length : Nat) : Int))) (
            cond (decide (((r7.length : Nat) : Int) ≤ ((r8.length : Nat) : Int))) (
            let l11 : List Int := List.take (Int.toNat ((r7.length : Nat) : Int)) r8
            cond (lenOk r7) (
            let r12 : Bool := listSame r7 l11
            cond (r12) (
              cond (decide (((o.length : Nat) : Int) ≤ ((p.length : Nat) : Int))) (
                cond (decide ((0 : Int) ≤ ((o.length : Nat) : Int))) (
                cond (decide (((o.length : Nat) : Int) ≤ ((p.length : Nat) : Int))) (
                let l13 : List Int := List.take (Int.toNat ((o.length : Nat) : Int)) p
                cond (lenOk o) (
                let r14 : Bool := listSame o l13
                cond (r14) (
                  let r15 : Bool := true
                  some (.ret [.cl (.bool r15)] []))
                (
                  some (.ret [.cl (.bool false)] []))) none) none) none)
              (
                some (.ret [.cl (.bool false)] [])))
            (
              let r16 : Bool := true
              some (.ret [.cl (.bool r16)] []))) none) none) none)
          (
            let r17 : Bool := true
            some (.ret [.cl (.bool r17)] [])))) none) none) none) none)))
theorem gLUnlike_eq (o : List Int) (p : List Int) : bodyK Tryd.prog (ELUnlike) 40 false Tryd.f5 [.cl (.sli .u32 o), .cl (.sli .u32 p)] [] = gLUnlike o p := by kernel_rfl
end Go.Proofs.YtgkedgpgfmibhaaDoorA

namespace Go.Proofs.YtgkedgpgfmibhaaDoorA
noncomputable def lpONums_0s (l : Nat) (again : (List Int) → Option Out) (k0 : (List Int) → Option Out) (k1 : (List Int) → Option Out) (v1 : List Int) : Option Out :=
  cond (decide ((0 : Int) < ((v1.length : Nat) : Int))) (
    cond (bytesOk v1) (
    let r1 : Int := (oidNumber v1).1
    let r2 : Int := (oidNumber v1).2
    cond (Nat.beq l l) (
    yldO [.int .u32 r1, .bool (decide ((0 : Int) < r2))] (
      k0 v1)
    (
      cond (decide (r2 = 0)) (
        k0 v1)
      (
        cond (decide ((0 : Int) ≤ r2)) (
        cond (decide (r2 ≤ ((v1.length : Nat) : Int))) (
        let l3 : List Int := List.drop (Int.toNat r2) v1
        again l3) none) none))) none) none)
  (
    k1 v1)
noncomputable def lpONums_0 (l : Nat) (k0 : (List Int) → Option Out) (k1 : (List Int) → Option Out) : Nat → (List Int) → Option Out := iterF (fun a => lpONums_0s l a k0 k1) (fun _ => none)
noncomputable def LONums_0 (l : Nat) : St → (Ex → St → Option Out) → Option Out := fun σ k => match σ with
  | ⟨[(q1, .cl (.fn (.yield q2) [] [])), (q3, .ptr q4 q5 q6)], [(q7, ⟨.var [.cl (.sli .u8 v1)], false⟩)]⟩ => cond (Nat.beq q1 0 && Nat.beq q3 1 && Nat.beq q4 0 && Nat.beq q5 0 && Nat.beq q6 0 && Nat.beq q7 0 && Nat.beq l q2) (shut (lpONums_0 l (fun y1 => k .ret ⟨[], [(0, ⟨.var [.cl (.sli .u8 y1)], false⟩)]⟩) (fun y1 => k (.exit 0) ⟨[], [(0, ⟨.var [.cl (.sli .u8 y1)], false⟩)]⟩) FUEL) v1) none
  | _ => none
noncomputable def EONums (l : Nat) : Env := {
  orc := fun g => cond (Nat.beq g 34) (SONumber) (fun _ _ => Tree.fail)
  pre := fun g => cond (Nat.beq g 34) (preONumber) (fun _ _ => true)
  byref := fun _ => []
  keep := fun _ => false
  live := fun r => cond (Nat.beq r 0) ([0, 1]) ([])
  ren := fun _ => []
  glob := glOid
  nt := 26
  lp := fun r => cond (Nat.beq r 0) (some (LONums_0 l)) (none)
  xl := fun r => cond (Nat.beq r 0) (some []) (cond (Nat.beq r 1) (some []) (none))
  rg := false
  yn := l
  yl := fun r => cond (Nat.beq r 2) (some 4) (none)
}
noncomputable def blpONums_0 : Code := (Cd.fst (Cd.fst (Tryd.f33.body.getD .skip)))
theorem LONums_0_ok (l : Nat) : LpOk Tryd.prog (EONums l) 40 blpONums_0 0 (LONums_0 l) := by
  intro σ k r h
  unfold LONums_0 at h
  split at h
  · replace h := cond_some h
    obtain ⟨hc, h⟩ := h
    simp only [Bool.and_eq_true, beq_prop, decide_eq_true_eq, Bool.not_eq_true'] at hc
    obtain ⟨⟨⟨⟨⟨⟨rfl, rfl⟩, rfl⟩, rfl⟩, rfl⟩, rfl⟩, rfl⟩ := hc
    rw [shut_eq] at h
    exact ⟨FUEL, iter_ok (F := fun n v1 => iterK n (codeK Tryd.prog (EONums l) 40 blpONums_0) (head (EONums l) 0) ⟨[(0, .cl (.fn (.yield l) [] [])), (1, .ptr 0 0 0)], [(0, ⟨.var [.cl (.sli .u8 v1)], false⟩)]⟩ k) (Q := fun f => f _ = some r) rfl (fun n => by kernel_rfl) h⟩
  · cases h
theorem loopsONums (l : Nat) : ∀ c, Tryd.f33.body = some c → LoopsOk Tryd.prog (EONums l) 40 c := by
  intro c hc
  cases hc
  exact ⟨⟨⟨trivial, ⟨trivial, trivial, jn_none rfl⟩, jn_none rfl⟩, ⟨trivial, ⟨⟨trivial, ⟨trivial, trivial, jn_none rfl⟩, jn_none rfl⟩, trivial, jn_none rfl⟩, jn_none rfl⟩, jn_none rfl⟩, lp_some rfl (LONums_0_ok l)⟩
noncomputable def gONums (l : Nat) (b : List Int) : Option Out :=
  cond (Nat.beq l l) (
  shut (lpONums_0 l
  (fun (y1 : List Int) =>
    some (.ret [] [some ⟨.var [.cl (.sli .u8 y1)], false⟩]))
  (fun (y2 : List Int) =>
    some (.ret [] [some ⟨.var [.cl (.sli .u8 y2)], false⟩]))
  FUEL) b) none
theorem gONums_eq (l : Nat) (b : List Int) : bodyK Tryd.prog (EONums l) 40 false Tryd.f33 [.cl (.fn (.yield l) [] []), .ptr 0 0 0] [⟨.var [.cl (.sli .u8 b)], false⟩] = gONums l b := by kernel_rfl
end Go.Proofs.YtgkedgpgfmibhaaDoorA
