/-
 What the reading of apostille/apostillelaw06.ValueFit comes to, printed by a program. Conditions: none.
-/
import Derived.Test.YtfkpjbbkdkcdcaaDoorT1
set_option linter.unusedVariables false
set_option linter.unusedSimpArgs false
set_option maxRecDepth 100000
namespace Go.Proofs.YtfkpjbbkdkcdcaaDoorA
end Go.Proofs.YtfkpjbbkdkcdcaaDoorA

namespace Go.Proofs.YtfkpjbbkdkcdcaaDoorA
noncomputable def EARoot : Env := {
 orc := fun _ => fun _ _ => Tree.fail
 pre := fun _ => fun _ _ => true
 byref := fun _ => []
 keep := fun _ => false
 live := fun _ => []
 ren := fun _ => []
 glob := glVal
 nt := 20
 lp := fun _ => none
 xl := fun r => cond (Nat.beq r 0) (some [2]) (none)
}
theorem loopsARoot : ∀ c, Tryd.f132.body = some c -> LoopsOk Tryd.prog (EARoot) 40 c := by
 intro c hc
 cases hc
 exact ⟨trivial, ⟨⟨trivial, ⟨trivial, ⟨⟨trivial, trivial, jn_none rfl⟩, ⟨trivial, ⟨⟨trivial, trivial, jn_none rfl⟩, ⟨trivial, ⟨⟨trivial, trivial, jn_none rfl⟩, ⟨trivial, ⟨⟨trivial, trivial, jn_none rfl⟩, ⟨trivial, ⟨⟨trivial, trivial, jn_none rfl⟩, trivial, jn_none rfl⟩, jn_none rfl⟩, jn_none rfl⟩, jn_none rfl⟩, jn_none rfl⟩, jn_none rfl⟩, jn_none rfl⟩, jn_none rfl⟩, jn_none rfl⟩, jn_none rfl⟩, jn_none rfl⟩, ⟨trivial, trivial, jn_none rfl⟩, jn_none rfl⟩, jn_none rfl⟩
noncomputable def gARoot_0  : Option Out :=
 some (.ret [.ref 0 0 8 true 1] [some ⟨.ints .u32 [2, 16, 840, 1, 101, 3, 4, 2], false⟩])
theorem gARoot_0_eq  : bodyK Tryd.prog (EARoot) 40 true Tryd.f132 [.cl (.int .i64 0)] [] = gARoot_0  := by kernel_rfl
noncomputable def gARoot_1  : Option Out :=
 some (.ret [.ref 0 0 8 true 1] [some ⟨.ints .u32 [2, 16, 840, 1, 101, 3, 4, 3], false⟩])
theorem gARoot_1_eq  : bodyK Tryd.prog (EARoot) 40 true Tryd.f132 [.cl (.int .i64 1)] [] = gARoot_1  := by kernel_rfl
noncomputable def gARoot_2  : Option Out :=
 some (.ret [.ref 0 0 8 true 1] [some ⟨.ints .u32 [2, 16, 840, 1, 101, 3, 4, 4], false⟩])
theorem gARoot_2_eq  : bodyK Tryd.prog (EARoot) 40 true Tryd.f132 [.cl (.int .i64 2)] [] = gARoot_2  := by kernel_rfl
noncomputable def gARoot_3  : Option Out :=
 some (.ret [.ref 0 0 8 true 1] [some ⟨.ints .u32 [2, 16, 840, 1, 101, 3, 4, 1], false⟩])
theorem gARoot_3_eq  : bodyK Tryd.prog (EARoot) 40 true Tryd.f132 [.cl (.int .i64 3)] [] = gARoot_3  := by kernel_rfl
noncomputable def gARoot_4  : Option Out :=
 some (.ret [.ref 0 0 8 true 1] [some ⟨.ints .u32 [1, 2, 840, 113549, 1, 9, 16, 3], false⟩])
theorem gARoot_4_eq  : bodyK Tryd.prog (EARoot) 40 true Tryd.f132 [.cl (.int .i64 4)] [] = gARoot_4  := by kernel_rfl
noncomputable def gARoot_5  : Option Out :=
 some (.ret [.ref 0 0 2 true 1] [some ⟨.ints .u32 [2, 999], false⟩])
theorem gARoot_5_eq  : bodyK Tryd.prog (EARoot) 40 true Tryd.f132 [.cl (.int .i64 5)] [] = gARoot_5  := by kernel_rfl
end Go.Proofs.YtfkpjbbkdkcdcaaDoorA

namespace Go.Proofs.YtfkpjbbkdkcdcaaDoorA
noncomputable def EAAll : Env := {
 orc := fun _ => fun _ _ => Tree.fail
 pre := fun _ => fun _ _ => true
 byref := fun _ => []
 keep := fun _ => false
 live := fun _ => []
 ren := fun _ => []
 glob := glVal
 nt := 1
 lp := fun _ => none
 xl := fun r => cond (Nat.beq r 0) (some [0]) (none)
}
theorem loopsAAll : ∀ c, Tryd.f97.body = some c -> LoopsOk Tryd.prog (EAAll) 40 c := by
 intro c hc
 cases hc
 exact ⟨trivial, ⟨trivial, trivial, jn_none rfl⟩, jn_none rfl⟩
noncomputable def gAAll  : Option Out :=
 some (.ret [.cl (.fn (.func 131) [] [])] [])
theorem gAAll_eq  : bodyK Tryd.prog (EAAll) 40 false Tryd.f97 [] [] = gAAll  := by kernel_rfl
end Go.Proofs.YtfkpjbbkdkcdcaaDoorA

namespace Go.Proofs.YtfkpjbbkdkcdcaaDoorA
noncomputable def rlAFound_2s (again : Int -> Option Out) (k0 : Int -> Int -> Int -> (List Int) -> Option Out) (k1 : Int -> Option Out) (e1 : Int) (e2 : Int) (e3 : List Int) (v1 : Int) : Option Out :=
 cond (decide (e1 = v1)) (
  k0 v1 e1 e2 e3)
 (
  again v1)
noncomputable def rlAFound_2 (k0 : Int -> Int -> Int -> (List Int) -> Option Out) (k1 : Int -> Option Out) : List (List CV) -> Int -> Option Out
 | [] => fun v1 => k1 v1
 | x :: r => rlAFound_2s (rlAFound_2 k0 k1 r) k0 k1 (cvInt ((cell1 (x.getD 0 .nili)).getD 0 .nili)) (cvInt ((cell1 (x.getD 0 .nili)).getD 1 .nili)) (cvSli ((cell1 (x.getD 0 .nili)).getD 2 .nili))
noncomputable def RAFound_2 : St -> List (List CV) -> (Ex -> St -> Option Out) -> Option Out := fun σ xs k => match σ with
 | ⟨[(q1, .ptr q2 q3 q4), (q5, .ptr q6 q7 q8)], [(q9, ⟨.var [.cl (.int .i64 v1)], false⟩), (q10, ⟨.var [.cl (.int .i64 q11), .cl (.int .i64 q12), .nils], false⟩)]⟩ => cond (List.all xs okAlAll) (cond (Nat.beq q1 1 && Nat.beq q2 0 && Nat.beq q3 0 && Nat.beq q4 0 && Nat.beq q5 2 && Nat.beq q6 1 && Nat.beq q7 0 && Nat.beq q8 0 && Nat.beq q9 0 && Nat.beq q10 1 && decide (q11 = 0) && decide (q12 = 0)) (shut (rlAFound_2 (fun y1 y2 y3 y4 => k .ret ⟨[(1, .ptr 0 0 0), (2, .ptr 1 0 0)], [(0, ⟨.var [.cl (.int .i64 y1)], false⟩), (1, ⟨.var [.cl (.int .i64 y2), .cl (.int .i64 y3), .cl (.sli .u32 y4)], false⟩)]⟩) (fun y1 => k .normal ⟨[(1, .ptr 0 0 0), (2, .ptr 1 0 0)], [(0, ⟨.var [.cl (.int .i64 y1)], false⟩), (1, ⟨.var [.cl (.int .i64 0), .cl (.int .i64 0), .nils], false⟩)]⟩)) xs v1) none) none
 | _ => none
noncomputable def EAFound : Env := {
 orc := fun g => cond (Nat.beq g 97) (SAAll) (fun _ _ => Tree.fail)
 pre := fun g => cond (Nat.beq g 97) (preAAll) (cond (Nat.beq g 131) (preAlAll) (fun _ _ => true))
 byref := fun _ => []
 keep := fun _ => false
 live := fun r => cond (Nat.beq r 2) ([1, 2]) ([])
 ren := fun _ => []
 glob := glVal
 nt := 12
 lp := fun _ => none
 xl := fun r => cond (Nat.beq r 0) (some [2]) (none)
 lowr := fun r => cond (Nat.beq r 2) ([(65, 0), (66, 1)]) ([])
 sq := fun g => cond (Nat.beq g 131) (QAlAll) (fun _ _ => none)
 rf := fun r => cond (Nat.beq r 2) (some (RAFound_2)) (none)
}
noncomputable def arlAFound_2 : Code := Cd.fst (Cd.fst (Cd.snd (Cd.fst (Cd.snd (Tryd.f94.body.getD .skip)))))
noncomputable def brlAFound_2 : Code := Cd.snd (Cd.fst (Cd.snd (Cd.fst (Cd.snd (Tryd.f94.body.getD .skip)))))
theorem rlAFound_2_step (k : Ex -> St -> Option Out) (r : List (List CV)) (e1 : Int) (e2 : Int) (e3 : List Int) (v1 : Int) : rangeK (EAFound) 12 2 [5] (codeK Tryd.prog (EAFound) 40 arlAFound_2) (codeK Tryd.prog (EAFound) 40 brlAFound_2) ([.agg [.int .i64 e1, .int .i64 e2, .sli .u32 e3]] :: r) ⟨[(1, .ptr 0 0 0), (2, .ptr 1 0 0)], [(0, ⟨.var [.cl (.int .i64 v1)], false⟩), (1, ⟨.var [.cl (.int .i64 0), .cl (.int .i64 0), .nils], false⟩)]⟩ k = rlAFound_2s (fun v1 => rangeK (EAFound) 12 2 [5] (codeK Tryd.prog (EAFound) 40 arlAFound_2) (codeK Tryd.prog (EAFound) 40 brlAFound_2) r ⟨[(1, .ptr 0 0 0), (2, .ptr 1 0 0)], [(0, ⟨.var [.cl (.int .i64 v1)], false⟩), (1, ⟨.var [.cl (.int .i64 0), .cl (.int .i64 0), .nils], false⟩)]⟩ k) (fun y1 y2 y3 y4 => k .ret ⟨[(1, .ptr 0 0 0), (2, .ptr 1 0 0)], [(0, ⟨.var [.cl (.int .i64 y1)], false⟩), (1, ⟨.var [.cl (.int .i64 y2), .cl (.int .i64 y3), .cl (.sli .u32 y4)], false⟩)]⟩) (fun y1 => k .normal ⟨[(1, .ptr 0 0 0), (2, .ptr 1 0 0)], [(0, ⟨.var [.cl (.int .i64 y1)], false⟩), (1, ⟨.var [.cl (.int .i64 0), .cl (.int .i64 0), .nils], false⟩)]⟩) e1 e2 e3 v1 := by kernel_rfl
theorem rlAFound_2_eq (k : Ex -> St -> Option Out) : ∀ (xs : List (List CV)), List.all xs okAlAll = true -> ∀ (v1 : Int), rangeK (EAFound) 12 2 [5] (codeK Tryd.prog (EAFound) 40 arlAFound_2) (codeK Tryd.prog (EAFound) 40 brlAFound_2) xs ⟨[(1, .ptr 0 0 0), (2, .ptr 1 0 0)], [(0, ⟨.var [.cl (.int .i64 v1)], false⟩), (1, ⟨.var [.cl (.int .i64 0), .cl (.int .i64 0), .nils], false⟩)]⟩ k = rlAFound_2 (fun y1 y2 y3 y4 => k .ret ⟨[(1, .ptr 0 0 0), (2, .ptr 1 0 0)], [(0, ⟨.var [.cl (.int .i64 y1)], false⟩), (1, ⟨.var [.cl (.int .i64 y2), .cl (.int .i64 y3), .cl (.sli .u32 y4)], false⟩)]⟩) (fun y1 => k .normal ⟨[(1, .ptr 0 0 0), (2, .ptr 1 0 0)], [(0, ⟨.var [.cl (.int .i64 y1)], false⟩), (1, ⟨.var [.cl (.int .i64 0), .cl (.int .i64 0), .nils], false⟩)]⟩) xs v1
 | [], _ => by intros; rfl
 | x :: r, h => by
  intros
  simp only [List.all_cons, Bool.and_eq_true] at h
  obtain ⟨e1, e2, e3, rfl⟩ := okAlAll_of h.1
  rw [rlAFound_2_step]
  have ih := rlAFound_2_eq k r h.2
  simp only [ih]
  rfl
theorem RAFound_2_ok : ∀ (σ : St) (xs : List (List CV)) (k : Ex -> St -> Option Out) (r : Out), RAFound_2 σ xs k = some r -> rangeK (EAFound) 12 2 [5] (codeK Tryd.prog (EAFound) 40 arlAFound_2) (codeK Tryd.prog (EAFound) 40 brlAFound_2) xs σ k = some r := by
 intro σ xs k r h
 unfold RAFound_2 at h
 split at h
 ·replace h := cond_some h
  obtain ⟨hx, h⟩ := h
  replace h := cond_some h
  obtain ⟨hc, h⟩ := h
  simp only [Bool.and_eq_true, beq_prop, decide_eq_true_eq, Bool.not_eq_true'] at hc
  obtain ⟨⟨⟨⟨⟨⟨⟨⟨⟨⟨⟨rfl, rfl⟩, rfl⟩, rfl⟩, rfl⟩, rfl⟩, rfl⟩, rfl⟩, rfl⟩, rfl⟩, rfl⟩, rfl⟩ := hc
  rw [shut_eq] at h
  exact (rlAFound_2_eq k xs hx _ ).trans h
 ·cases h
theorem loopsAFound : ∀ c, Tryd.f94.body = some c -> LoopsOk Tryd.prog (EAFound) 40 c := by
 intro c hc
 cases hc
 exact ⟨trivial, ⟨⟨trivial, ⟨trivial, ⟨trivial, ⟨⟨trivial, trivial, jn_none rfl⟩, trivial, jn_none rfl⟩, jn_none rfl⟩, rfl, rfl, rf_some rfl (RAFound_2_ok)⟩, jn_none rfl⟩, ⟨trivial, trivial, jn_none rfl⟩, jn_none rfl⟩, jn_none rfl⟩
noncomputable def gAFound (g : Int) : Option Out :=
 cond (List.all algRows okAlAll) (
 shut (rlAFound_2
 (fun (y1 : Int) (y2 : Int) (y3 : Int) (y4 : List Int) =>
  some (.ret [.cl (.agg [.int .i64 y2, .int .i64 y3, .sli .u32 y4])] []))
 (fun (y5 : Int) =>
  some (.ret [.cl (.agg [.int .i64 0, .int .i64 0, .sli .u32 []])] []))) algRows g) none
theorem gAFound_eq (g : Int) : bodyK Tryd.prog (EAFound) 40 false Tryd.f94 [.cl (.int .i64 g)] [] = gAFound g := by kernel_rfl
end Go.Proofs.YtfkpjbbkdkcdcaaDoorA

namespace Go.Proofs.YtfkpjbbkdkcdcaaDoorA
noncomputable def EAPlace : Env := {
 orc := fun _ => fun _ _ => Tree.fail
 pre := fun _ => fun _ _ => true
 byref := fun _ => []
 keep := fun _ => false
 live := fun _ => []
 ren := fun _ => []
 glob := glVal
 nt := 18
 lp := fun _ => none
 xl := fun r => cond (Nat.beq r 0) (some [4, 5]) (none)
}
theorem loopsAPlace : ∀ c, Tryd.f87.body = some c -> LoopsOk Tryd.prog (EAPlace) 40 c := by
 intro c hc
 cases hc
 exact ⟨trivial, ⟨trivial, trivial, jn_none rfl⟩, jn_none rfl⟩
noncomputable def gAPlace (g : Int) (h : Int) : Option Out :=
 let x1 : Int := IntKind.i64.wrap (g - h)
 cond (decide (h <= g)) (
  let x2 : Int := IntKind.i64.wrap (h + 3)
  some (.ret [.cl (.int .i64 x1), .cl (.bool (decide (g < x2)))] []))
 (
  some (.ret [.cl (.int .i64 x1), .cl (.bool false)] []))
theorem gAPlace_eq (g : Int) (h : Int) : bodyK Tryd.prog (EAPlace) 40 false Tryd.f87 [.cl (.int .i64 g), .cl (.int .i64 h)] [] = gAPlace g h := by kernel_rfl
end Go.Proofs.YtfkpjbbkdkcdcaaDoorA

namespace Go.Proofs.YtfkpjbbkdkcdcaaDoorA
noncomputable def EAGroup : Env := {
 orc := fun g => cond (Nat.beq g 94) (SAFound) (fun _ _ => Tree.fail)
 pre := fun g => cond (Nat.beq g 94) (preAFound) (fun _ _ => true)
 byref := fun _ => []
 keep := fun _ => false
 live := fun _ => []
 ren := fun _ => []
 glob := glVal
 nt := 6
 lp := fun _ => none
 xl := fun r => cond (Nat.beq r 0) (some [2]) (none)
}
theorem loopsAGroup : ∀ c, Tryd.f37.body = some c -> LoopsOk Tryd.prog (EAGroup) 40 c := by
 intro c hc
 cases hc
 exact ⟨trivial, ⟨trivial, trivial, jn_none rfl⟩, jn_none rfl⟩
noncomputable def gAGroup (g : Int) : Option Out :=
 let r2 : Int := (algFound g).2.1
 some (.ret [.cl (.int .i64 r2)] [])
theorem gAGroup_eq (g : Int) : bodyK Tryd.prog (EAGroup) 40 false Tryd.f37 [.cl (.int .i64 g)] [] = gAGroup g := by kernel_rfl
end Go.Proofs.YtfkpjbbkdkcdcaaDoorA

namespace Go.Proofs.YtfkpjbbkdkcdcaaDoorA
noncomputable def EAId : Env := {
 orc := fun g => cond (Nat.beq g 94) (SAFound) (fun _ _ => Tree.fail)
 pre := fun g => cond (Nat.beq g 94) (preAFound) (fun _ _ => true)
 byref := fun _ => []
 keep := fun _ => false
 live := fun _ => []
 ren := fun _ => []
 glob := glVal
 nt := 6
 lp := fun _ => none
 xl := fun r => cond (Nat.beq r 0) (some [2]) (none)
}
theorem loopsAId : ∀ c, Tryd.f39.body = some c -> LoopsOk Tryd.prog (EAId) 40 c := by
 intro c hc
 cases hc
 exact ⟨trivial, ⟨trivial, trivial, jn_none rfl⟩, jn_none rfl⟩
noncomputable def gAId (g : Int) : Option Out :=
 let r3 : List Int := (algFound g).2.2
 some (.ret [.cl (.sli .u32 r3)] [])
theorem gAId_eq (g : Int) : bodyK Tryd.prog (EAId) 40 false Tryd.f39 [.cl (.int .i64 g)] [] = gAId g := by kernel_rfl
end Go.Proofs.YtfkpjbbkdkcdcaaDoorA

namespace Go.Proofs.YtfkpjbbkdkcdcaaDoorA
noncomputable def rlAOf_2s (again : (List Int) -> Option Out) (k0 : (List Int) -> Int -> Option Out) (k1 : (List Int) -> Option Out) (e1 : Int) (e2 : Int) (e3 : List Int) (v1 : List Int) : Option Out :=
 cond (lenOk e3) (
 let r1 : Bool := listSame e3 v1
 cond (r1) (
  k0 v1 e1)
 (
  again v1)) none
noncomputable def rlAOf_2 (k0 : (List Int) -> Int -> Option Out) (k1 : (List Int) -> Option Out) : List (List CV) -> (List Int) -> Option Out
 | [] => fun v1 => k1 v1
 | x :: r => rlAOf_2s (rlAOf_2 k0 k1 r) k0 k1 (cvInt ((cell1 (x.getD 0 .nili)).getD 0 .nili)) (cvInt ((cell1 (x.getD 0 .nili)).getD 1 .nili)) (cvSli ((cell1 (x.getD 0 .nili)).getD 2 .nili))
noncomputable def RAOf_2 : St -> List (List CV) -> (Ex -> St -> Option Out) -> Option Out := fun σ xs k => match σ with
 | ⟨[(q1, .ptr q2 q3 q4), (q5, .ptr q6 q7 q8)], [(q9, ⟨.var [.cl (.sli .u32 v1)], false⟩), (q10, ⟨.var [.cl (.int .i64 q11)], false⟩)]⟩ => cond (List.all xs okAlAll) (cond (Nat.beq q1 1 && Nat.beq q2 0 && Nat.beq q3 0 && Nat.beq q4 0 && Nat.beq q5 2 && Nat.beq q6 1 && Nat.beq q7 0 && Nat.beq q8 0 && Nat.beq q9 0 && Nat.beq q10 1 && decide (q11 = 0)) (shut (rlAOf_2 (fun y1 y2 => k .ret ⟨[(1, .ptr 0 0 0), (2, .ptr 1 0 0)], [(0, ⟨.var [.cl (.sli .u32 y1)], false⟩), (1, ⟨.var [.cl (.int .i64 y2)], false⟩)]⟩) (fun y1 => k .normal ⟨[(1, .ptr 0 0 0), (2, .ptr 1 0 0)], [(0, ⟨.var [.cl (.sli .u32 y1)], false⟩), (1, ⟨.var [.cl (.int .i64 0)], false⟩)]⟩)) xs v1) none) none
 | _ => none
noncomputable def EAOf : Env := {
 orc := fun g => cond (Nat.beq g 97) (SAAll) (cond (Nat.beq g 98) (SOSame) (fun _ _ => Tree.fail))
 pre := fun g => cond (Nat.beq g 97) (preAAll) (cond (Nat.beq g 98) (preOSame) (cond (Nat.beq g 131) (preAlAll) (fun _ _ => true)))
 byref := fun _ => []
 keep := fun _ => false
 live := fun r => cond (Nat.beq r 2) ([1, 2]) ([])
 ren := fun _ => []
 glob := glVal
 nt := 12
 lp := fun _ => none
 xl := fun r => cond (Nat.beq r 0) (some [2]) (none)
 lowr := fun r => cond (Nat.beq r 2) ([(65, 0), (66, 1)]) ([])
 sq := fun g => cond (Nat.beq g 131) (QAlAll) (fun _ _ => none)
 rf := fun r => cond (Nat.beq r 2) (some (RAOf_2)) (none)
}
noncomputable def arlAOf_2 : Code := Cd.fst (Cd.fst (Cd.snd (Cd.fst (Cd.snd (Tryd.f41.body.getD .skip)))))
noncomputable def brlAOf_2 : Code := Cd.snd (Cd.fst (Cd.snd (Cd.fst (Cd.snd (Tryd.f41.body.getD .skip)))))
theorem rlAOf_2_step (k : Ex -> St -> Option Out) (r : List (List CV)) (e1 : Int) (e2 : Int) (e3 : List Int) (v1 : List Int) : rangeK (EAOf) 12 2 [5] (codeK Tryd.prog (EAOf) 40 arlAOf_2) (codeK Tryd.prog (EAOf) 40 brlAOf_2) ([.agg [.int .i64 e1, .int .i64 e2, .sli .u32 e3]] :: r) ⟨[(1, .ptr 0 0 0), (2, .ptr 1 0 0)], [(0, ⟨.var [.cl (.sli .u32 v1)], false⟩), (1, ⟨.var [.cl (.int .i64 0)], false⟩)]⟩ k = rlAOf_2s (fun v1 => rangeK (EAOf) 12 2 [5] (codeK Tryd.prog (EAOf) 40 arlAOf_2) (codeK Tryd.prog (EAOf) 40 brlAOf_2) r ⟨[(1, .ptr 0 0 0), (2, .ptr 1 0 0)], [(0, ⟨.var [.cl (.sli .u32 v1)], false⟩), (1, ⟨.var [.cl (.int .i64 0)], false⟩)]⟩ k) (fun y1 y2 => k .ret ⟨[(1, .ptr 0 0 0), (2, .ptr 1 0 0)], [(0, ⟨.var [.cl (.sli .u32 y1)], false⟩), (1, ⟨.var [.cl (.int .i64 y2)], false⟩)]⟩) (fun y1 => k .normal ⟨[(1, .ptr 0 0 0), (2, .ptr 1 0 0)], [(0, ⟨.var [.cl (.sli .u32 y1)], false⟩), (1, ⟨.var [.cl (.int .i64 0)], false⟩)]⟩) e1 e2 e3 v1 := by kernel_rfl
theorem rlAOf_2_eq (k : Ex -> St -> Option Out) : ∀ (xs : List (List CV)), List.all xs okAlAll = true -> ∀ (v1 : List Int), rangeK (EAOf) 12 2 [5] (codeK Tryd.prog (EAOf) 40 arlAOf_2) (codeK Tryd.prog (EAOf) 40 brlAOf_2) xs ⟨[(1, .ptr 0 0 0), (2, .ptr 1 0 0)], [(0, ⟨.var [.cl (.sli .u32 v1)], false⟩), (1, ⟨.var [.cl (.int .i64 0)], false⟩)]⟩ k = rlAOf_2 (fun y1 y2 => k .ret ⟨[(1, .ptr 0 0 0), (2, .ptr 1 0 0)], [(0, ⟨.var [.cl (.sli .u32 y1)], false⟩), (1, ⟨.var [.cl (.int .i64 y2)], false⟩)]⟩) (fun y1 => k .normal ⟨[(1, .ptr 0 0 0), (2, .ptr 1 0 0)], [(0, ⟨.var [.cl (.sli .u32 y1)], false⟩), (1, ⟨.var [.cl (.int .i64 0)], false⟩)]⟩) xs v1
 | [], _ => by intros; rfl
 | x :: r, h => by
  intros
  simp only [List.all_cons, Bool.and_eq_true] at h
  obtain ⟨e1, e2, e3, rfl⟩ := okAlAll_of h.1
  rw [rlAOf_2_step]
  have ih := rlAOf_2_eq k r h.2
  simp only [ih]
  rfl
theorem RAOf_2_ok : ∀ (σ : St) (xs : List (List CV)) (k : Ex -> St -> Option Out) (r : Out), RAOf_2 σ xs k = some r -> rangeK (EAOf) 12 2 [5] (codeK Tryd.prog (EAOf) 40 arlAOf_2) (codeK Tryd.prog (EAOf) 40 brlAOf_2) xs σ k = some r := by
 intro σ xs k r h
 unfold RAOf_2 at h
 split at h
 ·replace h := cond_some h
  obtain ⟨hx, h⟩ := h
  replace h := cond_some h
  obtain ⟨hc, h⟩ := h
  simp only [Bool.and_eq_true, beq_prop, decide_eq_true_eq, Bool.not_eq_true'] at hc
  obtain ⟨⟨⟨⟨⟨⟨⟨⟨⟨⟨rfl, rfl⟩, rfl⟩, rfl⟩, rfl⟩, rfl⟩, rfl⟩, rfl⟩, rfl⟩, rfl⟩, rfl⟩ := hc
  rw [shut_eq] at h
  exact (rlAOf_2_eq k xs hx _ ).trans h
 ·cases h
theorem loopsAOf : ∀ c, Tryd.f41.body = some c -> LoopsOk Tryd.prog (EAOf) 40 c := by
 intro c hc
 cases hc
 exact ⟨trivial, ⟨⟨trivial, ⟨trivial, ⟨trivial, ⟨⟨trivial, trivial, jn_none rfl⟩, trivial, jn_none rfl⟩, jn_none rfl⟩, rfl, rfl, rf_some rfl (RAOf_2_ok)⟩, jn_none rfl⟩, ⟨trivial, trivial, jn_none rfl⟩, jn_none rfl⟩, jn_none rfl⟩
noncomputable def gAOf (o : List Int) : Option Out :=
 cond (List.all algRows okAlAll) (
 shut (rlAOf_2
 (fun (y1 : List Int) (y2 : Int) =>
  some (.ret [.cl (.int .i64 y2)] []))
 (fun (y3 : List Int) =>
  some (.ret [.cl (.int .i64 0)] []))) algRows o) none
theorem gAOf_eq (o : List Int) : bodyK Tryd.prog (EAOf) 40 false Tryd.f41 [.cl (.sli .u32 o)] [] = gAOf o := by kernel_rfl
end Go.Proofs.YtfkpjbbkdkcdcaaDoorA

namespace Go.Proofs.YtfkpjbbkdkcdcaaDoorA
noncomputable def EAName : Env := {
 orc := fun _ => fun _ _ => Tree.fail
 pre := fun _ => fun _ _ => true
 byref := fun _ => []
 keep := fun _ => false
 live := fun _ => []
 ren := fun _ => []
 glob := glVal
 nt := 49
 lp := fun _ => none
 xl := fun r => cond (Nat.beq r 0) (some [2]) (none)
}
theorem loopsAName : ∀ c, Tryd.f43.body = some c -> LoopsOk Tryd.prog (EAName) 40 c := by
 intro c hc
 cases hc
 exact ⟨trivial, ⟨trivial, ⟨⟨trivial, ⟨⟨trivial, trivial, jn_none rfl⟩, ⟨trivial, ⟨⟨trivial, trivial, jn_none rfl⟩, ⟨trivial, ⟨⟨trivial, trivial, jn_none rfl⟩, ⟨trivial, ⟨⟨trivial, trivial, jn_none rfl⟩, ⟨trivial, ⟨⟨trivial, trivial, jn_none rfl⟩, trivial, jn_none rfl⟩, jn_none rfl⟩, jn_none rfl⟩, jn_none rfl⟩, jn_none rfl⟩, jn_none rfl⟩, jn_none rfl⟩, jn_none rfl⟩, jn_none rfl⟩, jn_none rfl⟩, ⟨trivial, trivial, jn_none rfl⟩, jn_none rfl⟩, jn_none rfl⟩, jn_none rfl⟩
noncomputable def gAName (g : Int) : Option Out :=
 cond (decide ((1 : Int) <= g)) (
  cond (decide (g <= 3)) (
   let x1 : Int := IntKind.u32.wrap g
   some (.ret [.cl (.sli .u32 [1, 2, 840, 113549, 1, 7, x1])] []))
  (
   cond (decide ((6 : Int) <= g)) (
    cond (decide (g <= 9)) (
     let x2 : Int := IntKind.i64.wrap ((3 : Int) + g)
     let x3 : Int := IntKind.i64.wrap (x2 - 6)
     let x4 : Int := IntKind.u32.wrap x3
     some (.ret [.cl (.sli .u32 [1, 2, 840, 113549, 1, 9, x4])] []))
    (
     cond (decide (g = 4)) (
      some (.ret [.cl (.sli .u32 [1, 2, 840, 113549, 1, 9, 16, 1, 23])] []))
     (
      cond (decide (g = 5)) (
       some (.ret [.cl (.sli .u32 [1, 2, 840, 113549, 1, 9, 16, 1, 4])] []))
      (
       cond (decide (g = 10)) (
        some (.ret [.cl (.sli .u32 [1, 2, 840, 113549, 1, 9, 16, 13, 3])] []))
       (
        some (.ret [.cl (.sli .u32 [])] []))))))
   (
    cond (decide (g = 4)) (
     some (.ret [.cl (.sli .u32 [1, 2, 840, 113549, 1, 9, 16, 1, 23])] []))
    (
     cond (decide (g = 5)) (
      some (.ret [.cl (.sli .u32 [1, 2, 840, 113549, 1, 9, 16, 1, 4])] []))
     (
      cond (decide (g = 10)) (
       some (.ret [.cl (.sli .u32 [1, 2, 840, 113549, 1, 9, 16, 13, 3])] []))
      (
       some (.ret [.cl (.sli .u32 [])] [])))))))
 (
  cond (decide ((6 : Int) <= g)) (
   cond (decide (g <= 9)) (
    let x5 : Int := IntKind.i64.wrap ((3 : Int) + g)
    let x6 : Int := IntKind.i64.wrap (x5 - 6)
    let x7 : Int := IntKind.u32.wrap x6
    some (.ret [.cl (.sli .u32 [1, 2, 840, 113549, 1, 9, x7])] []))
   (
    cond (decide (g = 4)) (
     some (.ret [.cl (.sli .u32 [1, 2, 840, 113549, 1, 9, 16, 1, 23])] []))
    (
     cond (decide (g = 5)) (
      some (.ret [.cl (.sli .u32 [1, 2, 840, 113549, 1, 9, 16, 1, 4])] []))
     (
      cond (decide (g = 10)) (
       some (.ret [.cl (.sli .u32 [1, 2, 840, 113549, 1, 9, 16, 13, 3])] []))
      (
       some (.ret [.cl (.sli .u32 [])] []))))))
  (
   cond (decide (g = 4)) (
    some (.ret [.cl (.sli .u32 [1, 2, 840, 113549, 1, 9, 16, 1, 23])] []))
   (
    cond (decide (g = 5)) (
     some (.ret [.cl (.sli .u32 [1, 2, 840, 113549, 1, 9, 16, 1, 4])] []))
    (
     cond (decide (g = 10)) (
      some (.ret [.cl (.sli .u32 [1, 2, 840, 113549, 1, 9, 16, 13, 3])] []))
     (
      some (.ret [.cl (.sli .u32 [])] []))))))
theorem gAName_eq (g : Int) : bodyK Tryd.prog (EAName) 40 false Tryd.f43 [.cl (.int .i64 g)] [] = gAName g := by kernel_rfl
end Go.Proofs.YtfkpjbbkdkcdcaaDoorA

namespace Go.Proofs.YtfkpjbbkdkcdcaaDoorA
noncomputable def lpASize_2s (again : Int -> Int -> Option Out) (k0 : Int -> Option Out) (k1 : Option Out) (v1 : Int) (v2 : Int) : Option Out :=
 cond (decide (v2 < 4)) (
  cond (decide ((0 : Int) <= v2)) (
  cond (decide (v2 < 4)) (
  Option.bind ([61, 71, 81, 91][(0 + (Int.toNat v2))]?) fun (e1 : Int) =>
  cond (placeOk e1) (
  let r2 : Int := algPlace v1 e1
  let r3 : Bool := algIn v1 e1
  cond (r3) (
   cond (decide (v2 = 0)) (
    let x4 : Int := IntKind.i64.wrap ((16 : Int) * r2)
    let x5 : Int := IntKind.i64.wrap ((32 : Int) + x4)
    k0 x5)
   (
    cond (r3) (
     let x6 : Int := IntKind.i64.wrap ((8 : Int) * r2)
     let x7 : Int := IntKind.i64.wrap ((16 : Int) + x6)
     k0 x7)
    (
     let x8 : Int := IntKind.i64.wrap (v2 + 1)
     again v1 x8)))
  (
   cond (r3) (
    let x9 : Int := IntKind.i64.wrap ((8 : Int) * r2)
    let x10 : Int := IntKind.i64.wrap ((16 : Int) + x9)
    k0 x10)
   (
    let x11 : Int := IntKind.i64.wrap (v2 + 1)
    again v1 x11))) none) none) none)
 (
  k1)
noncomputable def lpASize_2 (k0 : Int -> Option Out) (k1 : Option Out) : Nat -> Int -> Int -> Option Out := iterF (fun a => lpASize_2s a k0 k1) (fun _ _ => none)
noncomputable def LASize_2 : St -> (Ex -> St -> Option Out) -> Option Out := fun σ k => match σ with
 | ⟨[(q1, .cl (.int .i64 v1)), (q2, .ref q3 q4 q5 true q6), (q7, .cl (.int .i64 q8)), (q9, .cl (.int .i64 v2))], [(q10, ⟨.ints .i64 [q11, q12, q13, q14], false⟩)]⟩ => cond (Nat.beq q1 0 && Nat.beq q2 7 && Nat.beq q3 71 && Nat.beq q4 0 && Nat.beq q5 4 && Nat.beq q6 1 && Nat.beq q7 8 && decide (q8 = 4) && Nat.beq q9 9 && Nat.beq q10 71 && decide (q11 = 61) && decide (q12 = 71) && decide (q13 = 81) && decide (q14 = 91)) (shut (lpASize_2 (fun y1 => k .ret ⟨[(2, .cl (.int .i64 y1))], []⟩) (k (.exit 0) ⟨[], []⟩) FUEL) v1 v2) none
 | _ => none
noncomputable def EASize : Env := {
 orc := fun g => cond (Nat.beq g 87) (SAPlace) (fun _ _ => Tree.fail)
 pre := fun g => cond (Nat.beq g 87) (preAPlace) (fun _ _ => true)
 byref := fun _ => []
 keep := fun _ => false
 live := fun r => cond (Nat.beq r 2) ([0, 7, 8, 9]) ([])
 ren := fun _ => []
 glob := glVal
 nt := 35
 lp := fun r => cond (Nat.beq r 2) (some (LASize_2)) (none)
 xl := fun r => cond (Nat.beq r 0) (some [2]) (cond (Nat.beq r 1) (some []) (none))
}
noncomputable def blpASize_2 : Code := (Cd.fst (Cd.fst (Cd.snd (Cd.fst (Cd.snd (Tryd.f45.body.getD .skip))))))
theorem LASize_2_ok : LpOk Tryd.prog (EASize) 40 blpASize_2 2 LASize_2 := by
 intro σ k r h
 unfold LASize_2 at h
 split at h
 ·replace h := cond_some h
  obtain ⟨hc, h⟩ := h
  simp only [Bool.and_eq_true, beq_prop, decide_eq_true_eq, Bool.not_eq_true'] at hc
  obtain ⟨⟨⟨⟨⟨⟨⟨⟨⟨⟨⟨⟨⟨rfl, rfl⟩, rfl⟩, rfl⟩, rfl⟩, rfl⟩, rfl⟩, rfl⟩, rfl⟩, rfl⟩, rfl⟩, rfl⟩, rfl⟩, rfl⟩ := hc
  rw [shut_eq] at h
  exact ⟨FUEL, iter_ok (F := fun n v1 v2 => iterK n (codeK Tryd.prog (EASize) 40 blpASize_2) (head (EASize) 2) ⟨[(0, .cl (.int .i64 v1)), (7, .ref 71 0 4 true 1), (8, .cl (.int .i64 4)), (9, .cl (.int .i64 v2))], [(71, ⟨.ints .i64 [61, 71, 81, 91], false⟩)]⟩ k) (Q := fun f => f _ _ = some r) rfl (fun n => by kernel_rfl) h⟩
 ·cases h
theorem loopsASize : ∀ c, Tryd.f45.body = some c -> LoopsOk Tryd.prog (EASize) 40 c := by
 intro c hc
 cases hc
 exact ⟨trivial, ⟨⟨trivial, ⟨⟨trivial, ⟨⟨trivial, trivial, jn_none rfl⟩, ⟨⟨trivial, ⟨trivial, ⟨trivial, ⟨⟨trivial, trivial, jn_none rfl⟩, ⟨trivial, ⟨⟨trivial, trivial, jn_none rfl⟩, trivial, jn_none rfl⟩, jn_none rfl⟩, jn_none rfl⟩, jn_none rfl⟩, jn_none rfl⟩, jn_none rfl⟩, trivial, jn_none rfl⟩, jn_none rfl⟩, jn_none rfl⟩, lp_some rfl (LASize_2_ok)⟩, jn_none rfl⟩, ⟨trivial, trivial, jn_none rfl⟩, jn_none rfl⟩, jn_none rfl⟩
noncomputable def gASize (g : Int) : Option Out :=
 shut (lpASize_2
 (fun (y1 : Int) =>
  some (.ret [.cl (.int .i64 y1)] []))
 (
  some (.ret [.cl (.int .i64 0)] []))
 FUEL) g 0
theorem gASize_eq (g : Int) : bodyK Tryd.prog (EASize) 40 false Tryd.f45 [.cl (.int .i64 g)] [] = gASize g := by kernel_rfl
end Go.Proofs.YtfkpjbbkdkcdcaaDoorA

namespace Go.Proofs.YtfkpjbbkdkcdcaaDoorA
noncomputable def jnARGroup_7 (k0 : Option Out) (k1 : Option Out) (k2 : Option Out) (k3 : Option Out) (k4 : Option Out) (v1 : Int) : Option Out :=
 cond (decide ((61 : Int) <= v1)) (
  cond (decide (v1 <= 63)) (
   k0)
  (
   cond (decide ((71 : Int) <= v1)) (
    cond (decide (v1 <= 73)) (
     k1)
    (
     cond (decide ((81 : Int) <= v1)) (
      cond (decide (v1 <= 83)) (
       k2)
      (
       cond (decide ((91 : Int) <= v1)) (
        cond (decide (v1 <= 93)) (
         k3)
        (
         k4))
       (
        k4)))
     (
      cond (decide ((91 : Int) <= v1)) (
       cond (decide (v1 <= 93)) (
        k3)
       (
        k4))
      (
       k4))))
   (
    cond (decide ((81 : Int) <= v1)) (
     cond (decide (v1 <= 83)) (
      k2)
     (
      cond (decide ((91 : Int) <= v1)) (
       cond (decide (v1 <= 93)) (
        k3)
       (
        k4))
      (
       k4)))
    (
     cond (decide ((91 : Int) <= v1)) (
      cond (decide (v1 <= 93)) (
       k3)
      (
       k4))
     (
      k4)))))
 (
  cond (decide ((71 : Int) <= v1)) (
   cond (decide (v1 <= 73)) (
    k1)
   (
    cond (decide ((81 : Int) <= v1)) (
     cond (decide (v1 <= 83)) (
      k2)
     (
      cond (decide ((91 : Int) <= v1)) (
       cond (decide (v1 <= 93)) (
        k3)
       (
        k4))
      (
       k4)))
    (
     cond (decide ((91 : Int) <= v1)) (
      cond (decide (v1 <= 93)) (
       k3)
      (
       k4))
     (
      k4))))
  (
   cond (decide ((81 : Int) <= v1)) (
    cond (decide (v1 <= 83)) (
     k2)
    (
     cond (decide ((91 : Int) <= v1)) (
      cond (decide (v1 <= 93)) (
       k3)
      (
       k4))
     (
      k4)))
   (
    cond (decide ((91 : Int) <= v1)) (
     cond (decide (v1 <= 93)) (
      k3)
     (
      k4))
    (
     k4))))
noncomputable def jnARGroup_5 (k0 : Option Out) (k1 : Option Out) (k2 : Option Out) (k3 : Option Out) (k4 : Option Out) (k5 : Option Out) (v1 : Int) : Option Out :=
 cond (decide ((51 : Int) <= v1)) (
  cond (decide (v1 <= 53)) (
   k0)
  (
   shut (jnARGroup_7
   (
    k1)
   (
    k2)
   (
    k3)
   (
    k4)
   (
    k5)) v1))
 (
  shut (jnARGroup_7
  (
   k1)
  (
   k2)
  (
   k3)
  (
   k4)
  (
   k5)) v1)
noncomputable def jnARGroup_3 (k0 : Option Out) (k1 : Option Out) (k2 : Option Out) (k3 : Option Out) (k4 : Option Out) (k5 : Option Out) (k6 : Option Out) (v1 : Int) : Option Out :=
 cond (decide ((11 : Int) <= v1)) (
  cond (decide (v1 <= 13)) (
   k0)
  (
   cond (decide ((21 : Int) <= v1)) (
    cond (decide (v1 <= 34)) (
     k0)
    (
     cond (decide (v1 = 41)) (
      k0)
     (
      shut (jnARGroup_5
      (
       k1)
      (
       k2)
      (
       k3)
      (
       k4)
      (
       k5)
      (
       k6)) v1)))
   (
    cond (decide (v1 = 41)) (
     k0)
    (
     shut (jnARGroup_5
     (
      k1)
     (
      k2)
     (
      k3)
     (
      k4)
     (
      k5)
     (
      k6)) v1))))
 (
  cond (decide ((21 : Int) <= v1)) (
   cond (decide (v1 <= 34)) (
    k0)
   (
    cond (decide (v1 = 41)) (
     k0)
    (
     shut (jnARGroup_5
     (
      k1)
     (
      k2)
     (
      k3)
     (
      k4)
     (
      k5)
     (
      k6)) v1)))
  (
   cond (decide (v1 = 41)) (
    k0)
   (
    shut (jnARGroup_5
    (
     k1)
    (
     k2)
    (
     k3)
    (
     k4)
    (
     k5)
    (
     k6)) v1)))
noncomputable def JARGroup_3 : St -> (Ex -> St -> Option Out) -> Option Out := fun σ k => match σ with
 | ⟨[(q1, .cl (.int .i64 v1))], []⟩ => cond (Nat.beq q1 0) (shut (jnARGroup_3 (k .ret ⟨[(2, .cl (.int .i64 2))], []⟩) (k .ret ⟨[(2, .cl (.int .i64 3))], []⟩) (k .ret ⟨[(2, .cl (.int .i64 4))], []⟩) (k .ret ⟨[(2, .cl (.int .i64 5))], []⟩) (k .ret ⟨[(2, .cl (.int .i64 6))], []⟩) (k .ret ⟨[(2, .cl (.int .i64 7))], []⟩) (k .normal ⟨[], []⟩)) v1) none
 | _ => none
noncomputable def JARGroup_5 : St -> (Ex -> St -> Option Out) -> Option Out := fun σ k => match σ with
 | ⟨[(q1, .cl (.int .i64 v1))], []⟩ => cond (Nat.beq q1 0) (shut (jnARGroup_5 (k .ret ⟨[(2, .cl (.int .i64 3))], []⟩) (k .ret ⟨[(2, .cl (.int .i64 4))], []⟩) (k .ret ⟨[(2, .cl (.int .i64 5))], []⟩) (k .ret ⟨[(2, .cl (.int .i64 6))], []⟩) (k .ret ⟨[(2, .cl (.int .i64 7))], []⟩) (k .normal ⟨[], []⟩)) v1) none
 | _ => none
noncomputable def JARGroup_7 : St -> (Ex -> St -> Option Out) -> Option Out := fun σ k => match σ with
 | ⟨[(q1, .cl (.int .i64 v1))], []⟩ => cond (Nat.beq q1 0) (shut (jnARGroup_7 (k .ret ⟨[(2, .cl (.int .i64 4))], []⟩) (k .ret ⟨[(2, .cl (.int .i64 5))], []⟩) (k .ret ⟨[(2, .cl (.int .i64 6))], []⟩) (k .ret ⟨[(2, .cl (.int .i64 7))], []⟩) (k .normal ⟨[], []⟩)) v1) none
 | _ => none
noncomputable def EARGroup : Env := {
 orc := fun _ => fun _ _ => Tree.fail
 pre := fun _ => fun _ _ => true
 byref := fun _ => []
 keep := fun _ => false
 live := fun r => cond (Nat.beq r 3) ([0]) (cond (Nat.beq r 5) ([0]) (cond (Nat.beq r 7) ([0]) ([])))
 ren := fun _ => []
 glob := glVal
 nt := 64
 lp := fun _ => none
 xl := fun r => cond (Nat.beq r 0) (some [2]) (cond (Nat.beq r 1003) (some []) (cond (Nat.beq r 1005) (some []) (cond (Nat.beq r 1007) (some []) (none))))
 jn := fun r => cond (Nat.beq r 3) (some (JARGroup_3)) (cond (Nat.beq r 5) (some (JARGroup_5)) (cond (Nat.beq r 7) (some (JARGroup_7)) (none)))
}
noncomputable def bjnARGroup_3 : Code := (Cd.snd (Cd.snd (Cd.fst (Cd.fst (Cd.snd (Tryd.f38.body.getD .skip))))))
theorem JARGroup_3_ok : JnOk Tryd.prog (EARGroup) 40 bjnARGroup_3 3 JARGroup_3 := by
 intro σ k r h
 unfold JARGroup_3 at h
 split at h
 ·replace h := cond_some h
  obtain ⟨hc, h⟩ := h
  simp only [Bool.and_eq_true, beq_prop, decide_eq_true_eq, Bool.not_eq_true'] at hc
  obtain rfl := hc
  rw [shut_eq] at h
  exact Eq.trans (by kernel_rfl) h
 ·cases h
noncomputable def bjnARGroup_5 : Code := (Cd.snd (Cd.snd (Cd.snd (Cd.snd (Cd.fst (Cd.fst (Cd.snd (Tryd.f38.body.getD .skip))))))))
theorem JARGroup_5_ok : JnOk Tryd.prog (EARGroup) 40 bjnARGroup_5 5 JARGroup_5 := by
 intro σ k r h
 unfold JARGroup_5 at h
 split at h
 ·replace h := cond_some h
  obtain ⟨hc, h⟩ := h
  simp only [Bool.and_eq_true, beq_prop, decide_eq_true_eq, Bool.not_eq_true'] at hc
  obtain rfl := hc
  rw [shut_eq] at h
  exact Eq.trans (by kernel_rfl) h
 ·cases h
noncomputable def bjnARGroup_7 : Code := (Cd.snd (Cd.snd (Cd.snd (Cd.snd (Cd.snd (Cd.snd (Cd.fst (Cd.fst (Cd.snd (Tryd.f38.body.getD .skip))))))))))
theorem JARGroup_7_ok : JnOk Tryd.prog (EARGroup) 40 bjnARGroup_7 7 JARGroup_7 := by
 intro σ k r h
 unfold JARGroup_7 at h
 split at h
 ·replace h := cond_some h
  obtain ⟨hc, h⟩ := h
  simp only [Bool.and_eq_true, beq_prop, decide_eq_true_eq, Bool.not_eq_true'] at hc
  obtain rfl := hc
  rw [shut_eq] at h
  exact Eq.trans (by kernel_rfl) h
 ·cases h
theorem loopsARGroup : ∀ c, Tryd.f38.body = some c -> LoopsOk Tryd.prog (EARGroup) 40 c := by
 intro c hc
 cases hc
 exact ⟨trivial, ⟨⟨trivial, ⟨⟨trivial, trivial, jn_none rfl⟩, ⟨trivial, ⟨⟨trivial, trivial, jn_none rfl⟩, ⟨trivial, ⟨⟨trivial, trivial, jn_none rfl⟩, ⟨trivial, ⟨⟨trivial, trivial, jn_none rfl⟩, ⟨trivial, ⟨⟨trivial, trivial, jn_none rfl⟩, ⟨trivial, ⟨⟨trivial, trivial, jn_none rfl⟩, ⟨trivial, ⟨⟨trivial, trivial, jn_none rfl⟩, trivial, jn_none rfl⟩, jn_none rfl⟩, jn_none rfl⟩, jn_none rfl⟩, jn_none rfl⟩, jn_none rfl⟩, jn_none rfl⟩, jn_none rfl⟩, jn_some rfl (JARGroup_7_ok)⟩, jn_none rfl⟩, jn_some rfl (JARGroup_5_ok)⟩, jn_none rfl⟩, jn_some rfl (JARGroup_3_ok)⟩, jn_none rfl⟩, ⟨trivial, trivial, jn_none rfl⟩, jn_none rfl⟩, jn_none rfl⟩
noncomputable def gARGroup (g : Int) : Option Out :=
 cond (decide ((1 : Int) <= g)) (
  cond (decide (g <= 7)) (
   some (.ret [.cl (.int .i64 1)] []))
  (
   shut (jnARGroup_3
   (
    some (.ret [.cl (.int .i64 2)] []))
   (
    some (.ret [.cl (.int .i64 3)] []))
   (
    some (.ret [.cl (.int .i64 4)] []))
   (
    some (.ret [.cl (.int .i64 5)] []))
   (
    some (.ret [.cl (.int .i64 6)] []))
   (
    some (.ret [.cl (.int .i64 7)] []))
   (
    some (.ret [.cl (.int .i64 0)] []))) g))
 (
  shut (jnARGroup_3
  (
   some (.ret [.cl (.int .i64 2)] []))
  (
   some (.ret [.cl (.int .i64 3)] []))
  (
   some (.ret [.cl (.int .i64 4)] []))
  (
   some (.ret [.cl (.int .i64 5)] []))
  (
   some (.ret [.cl (.int .i64 6)] []))
  (
   some (.ret [.cl (.int .i64 7)] []))
  (
   some (.ret [.cl (.int .i64 0)] []))) g)
theorem gARGroup_eq (g : Int) : bodyK Tryd.prog (EARGroup) 40 false Tryd.f38 [.cl (.int .i64 g)] [] = gARGroup g := by kernel_rfl
end Go.Proofs.YtfkpjbbkdkcdcaaDoorA

namespace Go.Proofs.YtfkpjbbkdkcdcaaDoorA
noncomputable def EARId : Env := {
 orc := fun g => cond (Nat.beq g 38) (SARGroup) (cond (Nat.beq g 95) (SARNist) (cond (Nat.beq g 96) (SARPkcs) (fun _ _ => Tree.fail)))
 pre := fun g => cond (Nat.beq g 38) (preARGroup) (cond (Nat.beq g 95) (preARNist) (cond (Nat.beq g 96) (preARPkcs) (fun _ _ => true)))
 byref := fun _ => []
 keep := fun _ => false
 live := fun _ => []
 ren := fun _ => []
 glob := glVal
 nt := 80
 lp := fun _ => none
 xl := fun r => cond (Nat.beq r 0) (some [2]) (none)
}
theorem loopsARId : ∀ c, Tryd.f40.body = some c -> LoopsOk Tryd.prog (EARId) 40 c := by
 intro c hc
 cases hc
 exact ⟨trivial, ⟨trivial, ⟨⟨trivial, ⟨trivial, ⟨⟨trivial, ⟨trivial, trivial, jn_none rfl⟩, jn_none rfl⟩, ⟨trivial, ⟨⟨⟨trivial, ⟨⟨trivial, trivial, jn_none rfl⟩, trivial, jn_none rfl⟩, jn_none rfl⟩, ⟨⟨trivial, ⟨⟨trivial, trivial, jn_none rfl⟩, trivial, jn_none rfl⟩, jn_none rfl⟩, ⟨⟨trivial, ⟨⟨trivial, trivial, jn_none rfl⟩, trivial, jn_none rfl⟩, jn_none rfl⟩, ⟨trivial, ⟨⟨trivial, ⟨⟨trivial, trivial, jn_none rfl⟩, trivial, jn_none rfl⟩, jn_none rfl⟩, ⟨trivial, trivial, jn_none rfl⟩, jn_none rfl⟩, jn_none rfl⟩, jn_none rfl⟩, jn_none rfl⟩, jn_none rfl⟩, ⟨trivial, ⟨⟨trivial, trivial, jn_none rfl⟩, ⟨trivial, ⟨⟨trivial, trivial, jn_none rfl⟩, ⟨trivial, ⟨⟨trivial, trivial, jn_none rfl⟩, ⟨trivial, ⟨⟨trivial, trivial, jn_none rfl⟩, ⟨trivial, ⟨⟨trivial, trivial, jn_none rfl⟩, trivial, jn_none rfl⟩, jn_none rfl⟩, jn_none rfl⟩, jn_none rfl⟩, jn_none rfl⟩, jn_none rfl⟩, jn_none rfl⟩, jn_none rfl⟩, jn_none rfl⟩, jn_none rfl⟩, jn_none rfl⟩, jn_none rfl⟩, jn_none rfl⟩, jn_none rfl⟩, jn_none rfl⟩, ⟨trivial, trivial, jn_none rfl⟩, jn_none rfl⟩, jn_none rfl⟩, jn_none rfl⟩
noncomputable def gARId (g : Int) : Option Out :=
 let x1 : Int := Int.tmod g 10
 let x2 : Int := IntKind.u32.wrap x1
 let r3 : Int := (algFound g).2.1
 cond (decide (r3 = 1)) (
  cond (decide ((0 : Int) <= g)) (
  cond (decide (g < 8)) (
  Option.bind ([0, 1, 2, 3, 8, 10, 11, 12][(0 + (Int.toNat g))]?) fun (e4 : Int) =>
  let r5 : List Int := algNist 2 e4
  some (.ret [.cl (.sli .u32 r5)] [])) none) none)
 (
  cond (decide (r3 = 2)) (
   cond (decide (g <= 13)) (
    let x6 : Int := IntKind.u32.wrap ((16 : Int) + x2)
    let r7 : List Int := algNist 3 x6
    some (.ret [.cl (.sli .u32 r7)] []))
   (
    cond (decide (g = 41)) (
     cond (lenOk [9, 16, 3, 17]) (
     let r8 : List Int := algPkcs [9, 16, 3, 17]
     some (.ret [.cl (.sli .u32 r8)] [])) none)
    (
     cond (decide ((33 : Int) <= g)) (
      let x9 : Int := IntKind.i64.wrap (g - 32)
      let x10 : Int := IntKind.u32.wrap x9
      some (.ret [.cl (.sli .u32 [2, 999, x10])] []))
     (
      let x11 : Int := IntKind.i64.wrap (g - 20)
      let x12 : Int := IntKind.u32.wrap x11
      let x13 : Int := Int.tmod x12 2
      cond (decide (x13 = 1)) (
       let x14 : Int := IntKind.u32.wrap (x12 - 1)
       let x15 : Int := IntKind.u32.wrap (Int.tdiv x14 2)
       let x16 : Int := IntKind.u32.wrap ((20 : Int) + x15)
       let r17 : List Int := algNist 3 x16
       some (.ret [.cl (.sli .u32 r17)] []))
      (
       let x18 : Int := IntKind.u32.wrap (x12 - 2)
       let x19 : Int := IntKind.u32.wrap (Int.tdiv x18 2)
       let x20 : Int := IntKind.u32.wrap ((26 : Int) + x19)
       let r21 : List Int := algNist 3 x20
       some (.ret [.cl (.sli .u32 r21)] []))))))
  (
   cond (decide (r3 = 3)) (
    let r22 : List Int := algNist 4 x2
    some (.ret [.cl (.sli .u32 r22)] []))
   (
    cond (decide (r3 = 4)) (
     let x23 : Int := IntKind.u32.wrap ((27 : Int) + x2)
     cond (lenOk [9, 16, 3, x23]) (
     let r24 : List Int := algPkcs [9, 16, 3, x23]
     some (.ret [.cl (.sli .u32 r24)] [])) none)
    (
     cond (decide (r3 = 5)) (
      let x25 : Int := IntKind.u32.wrap ((20 : Int) * x2)
      let x26 : Int := IntKind.u32.wrap (x25 - 15)
      let r27 : List Int := algNist 1 x26
      some (.ret [.cl (.sli .u32 r27)] []))
     (
      cond (decide (r3 = 6)) (
       let x28 : Int := IntKind.u32.wrap ((20 : Int) * x2)
       let x29 : Int := IntKind.u32.wrap (x28 - 18)
       let r30 : List Int := algNist 1 x29
       some (.ret [.cl (.sli .u32 r30)] []))
      (
       cond (decide (r3 = 7)) (
        let x31 : Int := IntKind.u32.wrap ((20 : Int) * x2)
        let x32 : Int := IntKind.u32.wrap (x31 - 14)
        let r33 : List Int := algNist 1 x32
        some (.ret [.cl (.sli .u32 r33)] []))
       (
        some (.ret [.cl (.sli .u32 [])] []))))))))
theorem gARId_eq (g : Int) : bodyK Tryd.prog (EARId) 40 false Tryd.f40 [.cl (.int .i64 g)] [] = gARId g := by kernel_rfl
end Go.Proofs.YtfkpjbbkdkcdcaaDoorA

namespace Go.Proofs.YtfkpjbbkdkcdcaaDoorA
noncomputable def lpAROf_2s (again : (List Int) -> Int -> Option Out) (k0 : Int -> Option Out) (k1 : Option Out) (v1 : List Int) (v2 : Int) : Option Out :=
 cond (decide (v2 <= 93)) (
  let r1 : Int := (algFound v2).2.1
  cond (!decide (r1 = 0)) (
   let r2 : List Int := (algFound v2).2.2
   cond (lenOk r2) (
   let r3 : Bool := listSame r2 v1
   cond (r3) (
    k0 v2)
   (
    let x4 : Int := IntKind.i64.wrap (v2 + 1)
    again v1 x4)) none)
  (
   let x5 : Int := IntKind.i64.wrap (v2 + 1)
   again v1 x5))
 (
  k1)
noncomputable def lpAROf_2 (k0 : Int -> Option Out) (k1 : Option Out) : Nat -> (List Int) -> Int -> Option Out := iterF (fun a => lpAROf_2s a k0 k1) (fun _ _ => none)
noncomputable def LAROf_2 : St -> (Ex -> St -> Option Out) -> Option Out := fun σ k => match σ with
 | ⟨[(q1, .cl (.sli .u32 v1)), (q2, .cl (.int .i64 v2))], []⟩ => cond (Nat.beq q1 0 && Nat.beq q2 3) (shut (lpAROf_2 (fun y1 => k .ret ⟨[(2, .cl (.int .i64 y1))], []⟩) (k (.exit 0) ⟨[], []⟩) FUEL) v1 v2) none
 | _ => none
noncomputable def EAROf : Env := {
 orc := fun g => cond (Nat.beq g 29) (SR2Same) (cond (Nat.beq g 38) (SARGroup) (cond (Nat.beq g 40) (SARId) (fun _ _ => Tree.fail)))
 pre := fun g => cond (Nat.beq g 29) (preR2Same) (cond (Nat.beq g 38) (preARGroup) (cond (Nat.beq g 40) (preARId) (fun _ _ => true)))
 byref := fun _ => []
 keep := fun _ => false
 live := fun r => cond (Nat.beq r 2) ([0, 3]) ([])
 ren := fun _ => []
 glob := glVal
 nt := 18
 lp := fun r => cond (Nat.beq r 2) (some (LAROf_2)) (none)
 xl := fun r => cond (Nat.beq r 0) (some [2]) (cond (Nat.beq r 1) (some []) (none))
}
noncomputable def blpAROf_2 : Code := (Cd.fst (Cd.fst (Cd.snd (Cd.fst (Cd.snd (Tryd.f42.body.getD .skip))))))
theorem LAROf_2_ok : LpOk Tryd.prog (EAROf) 40 blpAROf_2 2 LAROf_2 := by
 intro σ k r h
 unfold LAROf_2 at h
 split at h
 ·replace h := cond_some h
  obtain ⟨hc, h⟩ := h
  simp only [Bool.and_eq_true, beq_prop, decide_eq_true_eq, Bool.not_eq_true'] at hc
  obtain ⟨rfl, rfl⟩ := hc
  rw [shut_eq] at h
  exact ⟨FUEL, iter_ok (F := fun n v1 v2 => iterK n (codeK Tryd.prog (EAROf) 40 blpAROf_2) (head (EAROf) 2) ⟨[(0, .cl (.sli .u32 v1)), (3, .cl (.int .i64 v2))], []⟩ k) (Q := fun f => f _ _ = some r) rfl (fun n => by kernel_rfl) h⟩
 ·cases h
theorem loopsAROf : ∀ c, Tryd.f42.body = some c -> LoopsOk Tryd.prog (EAROf) 40 c := by
 intro c hc
 cases hc
 exact ⟨trivial, ⟨⟨trivial, ⟨⟨⟨trivial, ⟨trivial, trivial, jn_none rfl⟩, jn_none rfl⟩, ⟨⟨trivial, ⟨⟨trivial, trivial, jn_none rfl⟩, trivial, jn_none rfl⟩, jn_none rfl⟩, trivial, jn_none rfl⟩, jn_none rfl⟩, lp_some rfl (LAROf_2_ok)⟩, jn_none rfl⟩, ⟨trivial, trivial, jn_none rfl⟩, jn_none rfl⟩, jn_none rfl⟩
noncomputable def gAROf (o : List Int) : Option Out :=
 shut (lpAROf_2
 (fun (y1 : Int) =>
  some (.ret [.cl (.int .i64 y1)] []))
 (
  some (.ret [.cl (.int .i64 0)] []))
 FUEL) o 1
theorem gAROf_eq (o : List Int) : bodyK Tryd.prog (EAROf) 40 false Tryd.f42 [.cl (.sli .u32 o)] [] = gAROf o := by kernel_rfl
end Go.Proofs.YtfkpjbbkdkcdcaaDoorA

namespace Go.Proofs.YtfkpjbbkdkcdcaaDoorA
noncomputable def EARName : Env := {
 orc := fun g => cond (Nat.beq g 96) (SARPkcs) (fun _ _ => Tree.fail)
 pre := fun g => cond (Nat.beq g 96) (preARPkcs) (fun _ _ => true)
 byref := fun _ => []
 keep := fun _ => false
 live := fun _ => []
 ren := fun _ => []
 glob := glVal
 nt := 34
 lp := fun _ => none
 xl := fun r => cond (Nat.beq r 0) (some [2]) (none)
}
theorem loopsARName : ∀ c, Tryd.f44.body = some c -> LoopsOk Tryd.prog (EARName) 40 c := by
 intro c hc
 cases hc
 exact ⟨trivial, ⟨⟨trivial, ⟨⟨trivial, ⟨trivial, ⟨trivial, ⟨trivial, trivial, jn_none rfl⟩, jn_none rfl⟩, jn_none rfl⟩, jn_none rfl⟩, ⟨⟨trivial, trivial, jn_none rfl⟩, ⟨trivial, ⟨⟨trivial, trivial, jn_none rfl⟩, ⟨trivial, ⟨⟨trivial, trivial, jn_none rfl⟩, ⟨⟨trivial, ⟨trivial, ⟨trivial, ⟨trivial, ⟨trivial, ⟨trivial, trivial, jn_none rfl⟩, jn_none rfl⟩, jn_none rfl⟩, jn_none rfl⟩, jn_none rfl⟩, jn_none rfl⟩, ⟨⟨trivial, trivial, jn_none rfl⟩, ⟨trivial, ⟨⟨trivial, trivial, jn_none rfl⟩, trivial, jn_none rfl⟩, jn_none rfl⟩, jn_none rfl⟩, jn_none rfl⟩, jn_none rfl⟩, jn_none rfl⟩, jn_none rfl⟩, jn_none rfl⟩, jn_none rfl⟩, jn_none rfl⟩, jn_none rfl⟩, ⟨trivial, trivial, jn_none rfl⟩, jn_none rfl⟩, jn_none rfl⟩
noncomputable def gARName (g : Int) : Option Out :=
 cond (decide (g = 1)) (
  let x1 : Int := IntKind.u32.wrap g
  cond (lenOk [7, x1]) (
  let r2 : List Int := algPkcs [7, x1]
  some (.ret [.cl (.sli .u32 r2)] [])) none)
 (
  cond (decide (g = 2)) (
   let x3 : Int := IntKind.u32.wrap g
   cond (lenOk [7, x3]) (
   let r4 : List Int := algPkcs [7, x3]
   some (.ret [.cl (.sli .u32 r4)] [])) none)
  (
   cond (decide (g = 3)) (
    let x5 : Int := IntKind.u32.wrap g
    cond (lenOk [7, x5]) (
    let r6 : List Int := algPkcs [7, x5]
    some (.ret [.cl (.sli .u32 r6)] [])) none)
   (
    cond (decide (g = 4)) (
     cond (lenOk [9, 16, 1, 23]) (
     let r7 : List Int := algPkcs [9, 16, 1, 23]
     some (.ret [.cl (.sli .u32 r7)] [])) none)
    (
     cond (decide (g = 5)) (
      cond (lenOk [9, 16, 1, 4]) (
      let r8 : List Int := algPkcs [9, 16, 1, 4]
      some (.ret [.cl (.sli .u32 r8)] [])) none)
     (
      cond (decide (g = 6)) (
       let x9 : Int := IntKind.i64.wrap (g - 3)
       let x10 : Int := IntKind.u32.wrap x9
       cond (lenOk [9, x10]) (
       let r11 : List Int := algPkcs [9, x10]
       some (.ret [.cl (.sli .u32 r11)] [])) none)
      (
       cond (decide (g = 7)) (
        let x12 : Int := IntKind.i64.wrap (g - 3)
        let x13 : Int := IntKind.u32.wrap x12
        cond (lenOk [9, x13]) (
        let r14 : List Int := algPkcs [9, x13]
        some (.ret [.cl (.sli .u32 r14)] [])) none)
       (
        cond (decide (g = 8)) (
         let x15 : Int := IntKind.i64.wrap (g - 3)
         let x16 : Int := IntKind.u32.wrap x15
         cond (lenOk [9, x16]) (
         let r17 : List Int := algPkcs [9, x16]
         some (.ret [.cl (.sli .u32 r17)] [])) none)
        (
         cond (decide (g = 9)) (
          let x18 : Int := IntKind.i64.wrap (g - 3)
          let x19 : Int := IntKind.u32.wrap x18
          cond (lenOk [9, x19]) (
          let r20 : List Int := algPkcs [9, x19]
          some (.ret [.cl (.sli .u32 r20)] [])) none)
         (
          cond (decide (g = 10)) (
           cond (lenOk [9, 16, 13, 3]) (
           let r21 : List Int := algPkcs [9, 16, 13, 3]
           some (.ret [.cl (.sli .u32 r21)] [])) none)
          (
           some (.ret [.cl (.sli .u32 [])] [])))))))))))
theorem gARName_eq (g : Int) : bodyK Tryd.prog (EARName) 40 false Tryd.f44 [.cl (.int .i64 g)] [] = gARName g := by kernel_rfl
end Go.Proofs.YtfkpjbbkdkcdcaaDoorA

namespace Go.Proofs.YtfkpjbbkdkcdcaaDoorA
noncomputable def EARSize : Env := {
 orc := fun g => cond (Nat.beq g 38) (SARGroup) (fun _ _ => Tree.fail)
 pre := fun g => cond (Nat.beq g 38) (preARGroup) (fun _ _ => true)
 byref := fun _ => []
 keep := fun _ => false
 live := fun _ => []
 ren := fun _ => []
 glob := glVal
 nt := 19
 lp := fun _ => none
 xl := fun r => cond (Nat.beq r 0) (some [2]) (none)
}
theorem loopsARSize : ∀ c, Tryd.f46.body = some c -> LoopsOk Tryd.prog (EARSize) 40 c := by
 intro c hc
 cases hc
 exact ⟨trivial, ⟨⟨trivial, ⟨⟨trivial, ⟨trivial, ⟨trivial, ⟨trivial, trivial, jn_none rfl⟩, jn_none rfl⟩, jn_none rfl⟩, jn_none rfl⟩, ⟨⟨trivial, trivial, jn_none rfl⟩, ⟨trivial, ⟨⟨trivial, trivial, jn_none rfl⟩, trivial, jn_none rfl⟩, jn_none rfl⟩, jn_none rfl⟩, jn_none rfl⟩, jn_none rfl⟩, ⟨trivial, trivial, jn_none rfl⟩, jn_none rfl⟩, jn_none rfl⟩
noncomputable def gARSize (g : Int) : Option Out :=
 let r1 : Int := (algFound g).2.1
 cond (decide (r1 = 5)) (
  let x2 : Int := Int.tmod g 10
  let x3 : Int := IntKind.i64.wrap ((8 : Int) * x2)
  let x4 : Int := IntKind.i64.wrap ((8 : Int) + x3)
  some (.ret [.cl (.int .i64 x4)] []))
 (
  cond (decide (r1 = 6)) (
   let x5 : Int := Int.tmod g 10
   let x6 : Int := IntKind.i64.wrap ((8 : Int) * x5)
   let x7 : Int := IntKind.i64.wrap ((8 : Int) + x6)
   some (.ret [.cl (.int .i64 x7)] []))
  (
   cond (decide (r1 = 7)) (
    let x8 : Int := Int.tmod g 10
    let x9 : Int := IntKind.i64.wrap ((8 : Int) * x8)
    let x10 : Int := IntKind.i64.wrap ((8 : Int) + x9)
    some (.ret [.cl (.int .i64 x10)] []))
   (
    cond (decide (r1 = 4)) (
     let x11 : Int := Int.tmod g 10
     let x12 : Int := IntKind.i64.wrap ((16 : Int) * x11)
     let x13 : Int := IntKind.i64.wrap ((16 : Int) + x12)
     some (.ret [.cl (.int .i64 x13)] []))
    (
     some (.ret [.cl (.int .i64 0)] [])))))
theorem gARSize_eq (g : Int) : bodyK Tryd.prog (EARSize) 40 false Tryd.f46 [.cl (.int .i64 g)] [] = gARSize g := by kernel_rfl
end Go.Proofs.YtfkpjbbkdkcdcaaDoorA

namespace Go.Proofs.YtfkpjbbkdkcdcaaDoorA
noncomputable def EDPSet : Env := {
 orc := fun _ => fun _ _ => Tree.fail
 pre := fun _ => fun _ _ => true
 byref := fun _ => []
 keep := fun _ => false
 live := fun _ => []
 ren := fun _ => []
 glob := glVal
 nt := 15
 lp := fun _ => none
 xl := fun r => cond (Nat.beq r 0) (some [2, 3]) (none)
}
theorem loopsDPSet : ∀ c, Tryd.f88.body = some c -> LoopsOk Tryd.prog (EDPSet) 40 c := by
 intro c hc
 cases hc
 exact ⟨trivial, ⟨⟨trivial, ⟨trivial, ⟨⟨trivial, trivial, jn_none rfl⟩, ⟨trivial, ⟨⟨trivial, trivial, jn_none rfl⟩, ⟨trivial, ⟨⟨trivial, trivial, jn_none rfl⟩, trivial, jn_none rfl⟩, jn_none rfl⟩, jn_none rfl⟩, jn_none rfl⟩, jn_none rfl⟩, jn_none rfl⟩, jn_none rfl⟩, ⟨trivial, trivial, jn_none rfl⟩, jn_none rfl⟩, jn_none rfl⟩
noncomputable def gDPSet (g : Int) : Option Out :=
 cond (decide (g = 44)) (
  some (.ret [.cl (.agg [.int .i64 4, .int .i64 4, .int .i32 2, .int .i64 39, .int .i32 131072, .int .i32 95232, .int .i64 80, .int .i64 32]), .cl (.bool true)] []))
 (
  cond (decide (g = 65)) (
   some (.ret [.cl (.agg [.int .i64 6, .int .i64 5, .int .i32 4, .int .i64 49, .int .i32 524288, .int .i32 261888, .int .i64 55, .int .i64 48]), .cl (.bool true)] []))
  (
   cond (decide (g = 87)) (
    some (.ret [.cl (.agg [.int .i64 8, .int .i64 7, .int .i32 2, .int .i64 60, .int .i32 524288, .int .i32 261888, .int .i64 75, .int .i64 64]), .cl (.bool true)] []))
   (
    some (.ret [.cl (.agg [.int .i64 0, .int .i64 0, .int .i32 0, .int .i64 0, .int .i32 0, .int .i32 0, .int .i64 0, .int .i64 0]), .cl (.bool false)] []))))
theorem gDPSet_eq (g : Int) : bodyK Tryd.prog (EDPSet) 40 false Tryd.f88 [.cl (.int .i64 g)] [] = gDPSet g := by kernel_rfl
end Go.Proofs.YtfkpjbbkdkcdcaaDoorA

namespace Go.Proofs.YtfkpjbbkdkcdcaaDoorA
noncomputable def ER22Set : Env := {
 orc := fun _ => fun _ _ => Tree.fail
 pre := fun _ => fun _ _ => true
 byref := fun _ => []
 keep := fun _ => false
 live := fun _ => []
 ren := fun _ => []
 glob := glVal
 nt := 15
 lp := fun _ => none
 xl := fun r => cond (Nat.beq r 0) (some [2, 3]) (none)
}
theorem loopsR22Set : ∀ c, Tryd.f89.body = some c -> LoopsOk Tryd.prog (ER22Set) 40 c := by
 intro c hc
 cases hc
 exact ⟨trivial, ⟨⟨trivial, ⟨trivial, ⟨⟨trivial, trivial, jn_none rfl⟩, ⟨trivial, ⟨⟨trivial, trivial, jn_none rfl⟩, ⟨trivial, ⟨⟨trivial, trivial, jn_none rfl⟩, trivial, jn_none rfl⟩, jn_none rfl⟩, jn_none rfl⟩, jn_none rfl⟩, jn_none rfl⟩, jn_none rfl⟩, jn_none rfl⟩, ⟨trivial, trivial, jn_none rfl⟩, jn_none rfl⟩, jn_none rfl⟩
noncomputable def gR22Set (g : Int) : Option Out :=
 cond (decide (g = 44)) (
  some (.ret [.cl (.agg [.int .i64 4, .int .i64 4, .int .i32 2, .int .i64 39, .int .i32 131072, .int .i32 95232, .int .i64 80, .int .i64 32]), .cl (.bool true)] []))
 (
  cond (decide (g = 65)) (
   some (.ret [.cl (.agg [.int .i64 6, .int .i64 5, .int .i32 4, .int .i64 49, .int .i32 524288, .int .i32 261888, .int .i64 55, .int .i64 48]), .cl (.bool true)] []))
  (
   cond (decide (g = 87)) (
    some (.ret [.cl (.agg [.int .i64 8, .int .i64 7, .int .i32 2, .int .i64 60, .int .i32 524288, .int .i32 261888, .int .i64 75, .int .i64 64]), .cl (.bool true)] []))
   (
    some (.ret [.cl (.agg [.int .i64 0, .int .i64 0, .int .i32 0, .int .i64 0, .int .i32 0, .int .i32 0, .int .i64 0, .int .i64 0]), .cl (.bool false)] []))))
theorem gR22Set_eq (g : Int) : bodyK Tryd.prog (ER22Set) 40 false Tryd.f89 [.cl (.int .i64 g)] [] = gR22Set g := by kernel_rfl
end Go.Proofs.YtfkpjbbkdkcdcaaDoorA

namespace Go.Proofs.YtfkpjbbkdkcdcaaDoorA
noncomputable def EADsa : Env := {
 orc := fun g => cond (Nat.beq g 87) (SAPlace) (cond (Nat.beq g 88) (SDPSet) (fun _ _ => Tree.fail))
 pre := fun g => cond (Nat.beq g 87) (preAPlace) (cond (Nat.beq g 88) (preDPSet) (fun _ _ => true))
 byref := fun _ => []
 keep := fun _ => false
 live := fun _ => []
 ren := fun _ => []
 glob := glVal
 nt := 21
 lp := fun _ => none
 xl := fun r => cond (Nat.beq r 0) (some [2, 3]) (none)
}
theorem loopsADsa : ∀ c, Tryd.f31.body = some c -> LoopsOk Tryd.prog (EADsa) 40 c := by
 intro c hc
 cases hc
 exact ⟨trivial, ⟨trivial, ⟨⟨trivial, ⟨⟨trivial, trivial, jn_none rfl⟩, trivial, jn_none rfl⟩, jn_none rfl⟩, ⟨trivial, trivial, jn_none rfl⟩, jn_none rfl⟩, jn_none rfl⟩, jn_none rfl⟩
noncomputable def gADsa (g : Int) : Option Out :=
 cond (placeOk 11) (
 let r1 : Int := algPlace g 11
 let r2 : Bool := algIn g 11
 cond (!r2) (
  some (.ret [.cl (.agg [.int .i64 0, .int .i64 0, .int .i32 0, .int .i64 0, .int .i32 0, .int .i32 0, .int .i64 0, .int .i64 0]), .cl (.bool false)] []))
 (
  cond (decide ((0 : Int) <= r1)) (
  cond (decide (r1 < 3)) (
  Option.bind ([44, 65, 87][(0 + (Int.toNat r1))]?) fun (e3 : Int) =>
  cond (stI64 e3) (
  let r4 : Int := (dsaSet e3).1.getD 0 0
  let r5 : Int := (dsaSet e3).1.getD 1 0
  let r6 : Int := (dsaSet e3).1.getD 2 0
  let r7 : Int := (dsaSet e3).1.getD 3 0
  let r8 : Int := (dsaSet e3).1.getD 4 0
  let r9 : Int := (dsaSet e3).1.getD 5 0
  let r10 : Int := (dsaSet e3).1.getD 6 0
  let r11 : Int := (dsaSet e3).1.getD 7 0
  let r12 : Bool := (dsaSet e3).2
  some (.ret [.cl (.agg [.int .i64 r4, .int .i64 r5, .int .i32 r6, .int .i64 r7, .int .i32 r8, .int .i32 r9, .int .i64 r10, .int .i64 r11]), .cl (.bool r12)] [])) none) none) none)) none
theorem gADsa_eq (g : Int) : bodyK Tryd.prog (EADsa) 40 false Tryd.f31 [.cl (.int .i64 g)] [] = gADsa g := by kernel_rfl
end Go.Proofs.YtfkpjbbkdkcdcaaDoorA

namespace Go.Proofs.YtfkpjbbkdkcdcaaDoorA
noncomputable def EARDsa : Env := {
 orc := fun g => cond (Nat.beq g 89) (SR22Set) (fun _ _ => Tree.fail)
 pre := fun g => cond (Nat.beq g 89) (preR22Set) (fun _ _ => true)
 byref := fun _ => []
 keep := fun _ => false
 live := fun _ => []
 ren := fun _ => []
 glob := glVal
 nt := 21
 lp := fun _ => none
 xl := fun r => cond (Nat.beq r 0) (some [2, 3]) (none)
}
theorem loopsARDsa : ∀ c, Tryd.f32.body = some c -> LoopsOk Tryd.prog (EARDsa) 40 c := by
 intro c hc
 cases hc
 exact ⟨trivial, ⟨trivial, ⟨⟨trivial, ⟨⟨trivial, trivial, jn_none rfl⟩, trivial, jn_none rfl⟩, jn_none rfl⟩, ⟨trivial, trivial, jn_none rfl⟩, jn_none rfl⟩, jn_none rfl⟩, jn_none rfl⟩
noncomputable def gARDsa (g : Int) : Option Out :=
 cond (decide (g < 11)) (
  some (.ret [.cl (.agg [.int .i64 0, .int .i64 0, .int .i32 0, .int .i64 0, .int .i32 0, .int .i32 0, .int .i64 0, .int .i64 0]), .cl (.bool false)] []))
 (
  cond (decide ((13 : Int) < g)) (
   some (.ret [.cl (.agg [.int .i64 0, .int .i64 0, .int .i32 0, .int .i64 0, .int .i32 0, .int .i32 0, .int .i64 0, .int .i64 0]), .cl (.bool false)] []))
  (
   let x1 : Int := IntKind.i64.wrap (g - 11)
   cond (decide ((0 : Int) <= x1)) (
   cond (decide (x1 < 3)) (
   Option.bind ([44, 65, 87][(0 + (Int.toNat x1))]?) fun (e2 : Int) =>
   cond (stI64 e2) (
   let r3 : Int := (dsaSet e2).1.getD 0 0
   let r4 : Int := (dsaSet e2).1.getD 1 0
   let r5 : Int := (dsaSet e2).1.getD 2 0
   let r6 : Int := (dsaSet e2).1.getD 3 0
   let r7 : Int := (dsaSet e2).1.getD 4 0
   let r8 : Int := (dsaSet e2).1.getD 5 0
   let r9 : Int := (dsaSet e2).1.getD 6 0
   let r10 : Int := (dsaSet e2).1.getD 7 0
   let r11 : Bool := (dsaSet e2).2
   some (.ret [.cl (.agg [.int .i64 r3, .int .i64 r4, .int .i32 r5, .int .i64 r6, .int .i32 r7, .int .i32 r8, .int .i64 r9, .int .i64 r10]), .cl (.bool r11)] [])) none) none) none))
theorem gARDsa_eq (g : Int) : bodyK Tryd.prog (EARDsa) 40 false Tryd.f32 [.cl (.int .i64 g)] [] = gARDsa g := by kernel_rfl
end Go.Proofs.YtfkpjbbkdkcdcaaDoorA

namespace Go.Proofs.YtfkpjbbkdkcdcaaDoorA
noncomputable def EKPSet : Env := {
 orc := fun _ => fun _ _ => Tree.fail
 pre := fun _ => fun _ _ => true
 byref := fun _ => []
 keep := fun _ => false
 live := fun _ => []
 ren := fun _ => []
 glob := glVal
 nt := 15
 lp := fun _ => none
 xl := fun r => cond (Nat.beq r 0) (some [2, 3]) (none)
}
theorem loopsKPSet : ∀ c, Tryd.f92.body = some c -> LoopsOk Tryd.prog (EKPSet) 40 c := by
 intro c hc
 cases hc
 exact ⟨trivial, ⟨⟨trivial, ⟨trivial, ⟨⟨trivial, trivial, jn_none rfl⟩, ⟨trivial, ⟨⟨trivial, trivial, jn_none rfl⟩, ⟨trivial, ⟨⟨trivial, trivial, jn_none rfl⟩, trivial, jn_none rfl⟩, jn_none rfl⟩, jn_none rfl⟩, jn_none rfl⟩, jn_none rfl⟩, jn_none rfl⟩, jn_none rfl⟩, ⟨trivial, trivial, jn_none rfl⟩, jn_none rfl⟩, jn_none rfl⟩
noncomputable def gKPSet (g : Int) : Option Out :=
 cond (decide (g = 512)) (
  some (.ret [.cl (.agg [.int .i64 2, .int .i64 3, .int .i64 2, .int .i64 10, .int .i64 4]), .cl (.bool true)] []))
 (
  cond (decide (g = 768)) (
   some (.ret [.cl (.agg [.int .i64 3, .int .i64 2, .int .i64 2, .int .i64 10, .int .i64 4]), .cl (.bool true)] []))
  (
   cond (decide (g = 1024)) (
    some (.ret [.cl (.agg [.int .i64 4, .int .i64 2, .int .i64 2, .int .i64 11, .int .i64 5]), .cl (.bool true)] []))
   (
    some (.ret [.cl (.agg [.int .i64 0, .int .i64 0, .int .i64 0, .int .i64 0, .int .i64 0]), .cl (.bool false)] []))))
theorem gKPSet_eq (g : Int) : bodyK Tryd.prog (EKPSet) 40 false Tryd.f92 [.cl (.int .i64 g)] [] = gKPSet g := by kernel_rfl
end Go.Proofs.YtfkpjbbkdkcdcaaDoorA

namespace Go.Proofs.YtfkpjbbkdkcdcaaDoorA
noncomputable def ER26Set : Env := {
 orc := fun _ => fun _ _ => Tree.fail
 pre := fun _ => fun _ _ => true
 byref := fun _ => []
 keep := fun _ => false
 live := fun _ => []
 ren := fun _ => []
 glob := glVal
 nt := 15
 lp := fun _ => none
 xl := fun r => cond (Nat.beq r 0) (some [2, 3]) (none)
}
theorem loopsR26Set : ∀ c, Tryd.f93.body = some c -> LoopsOk Tryd.prog (ER26Set) 40 c := by
 intro c hc
 cases hc
 exact ⟨trivial, ⟨⟨trivial, ⟨trivial, ⟨⟨trivial, trivial, jn_none rfl⟩, ⟨trivial, ⟨⟨trivial, trivial, jn_none rfl⟩, ⟨trivial, ⟨⟨trivial, trivial, jn_none rfl⟩, trivial, jn_none rfl⟩, jn_none rfl⟩, jn_none rfl⟩, jn_none rfl⟩, jn_none rfl⟩, jn_none rfl⟩, jn_none rfl⟩, ⟨trivial, trivial, jn_none rfl⟩, jn_none rfl⟩, jn_none rfl⟩
noncomputable def gR26Set (g : Int) : Option Out :=
 cond (decide (g = 512)) (
  some (.ret [.cl (.agg [.int .i64 2, .int .i64 3, .int .i64 2, .int .i64 10, .int .i64 4]), .cl (.bool true)] []))
 (
  cond (decide (g = 768)) (
   some (.ret [.cl (.agg [.int .i64 3, .int .i64 2, .int .i64 2, .int .i64 10, .int .i64 4]), .cl (.bool true)] []))
  (
   cond (decide (g = 1024)) (
    some (.ret [.cl (.agg [.int .i64 4, .int .i64 2, .int .i64 2, .int .i64 11, .int .i64 5]), .cl (.bool true)] []))
   (
    some (.ret [.cl (.agg [.int .i64 0, .int .i64 0, .int .i64 0, .int .i64 0, .int .i64 0]), .cl (.bool false)] []))))
theorem gR26Set_eq (g : Int) : bodyK Tryd.prog (ER26Set) 40 false Tryd.f93 [.cl (.int .i64 g)] [] = gR26Set g := by kernel_rfl
end Go.Proofs.YtfkpjbbkdkcdcaaDoorA

namespace Go.Proofs.YtfkpjbbkdkcdcaaDoorA
noncomputable def EAKem : Env := {
 orc := fun g => cond (Nat.beq g 87) (SAPlace) (cond (Nat.beq g 92) (SKPSet) (fun _ _ => Tree.fail))
 pre := fun g => cond (Nat.beq g 87) (preAPlace) (cond (Nat.beq g 92) (preKPSet) (fun _ _ => true))
 byref := fun _ => []
 keep := fun _ => false
 live := fun _ => []
 ren := fun _ => []
 glob := glVal
 nt := 21
 lp := fun _ => none
 xl := fun r => cond (Nat.beq r 0) (some [2, 3]) (none)
}
theorem loopsAKem : ∀ c, Tryd.f35.body = some c -> LoopsOk Tryd.prog (EAKem) 40 c := by
 intro c hc
 cases hc
 exact ⟨trivial, ⟨trivial, ⟨⟨trivial, ⟨⟨trivial, trivial, jn_none rfl⟩, trivial, jn_none rfl⟩, jn_none rfl⟩, ⟨trivial, trivial, jn_none rfl⟩, jn_none rfl⟩, jn_none rfl⟩, jn_none rfl⟩
noncomputable def gAKem (g : Int) : Option Out :=
 cond (placeOk 51) (
 let r1 : Int := algPlace g 51
 let r2 : Bool := algIn g 51
 cond (!r2) (
  some (.ret [.cl (.agg [.int .i64 0, .int .i64 0, .int .i64 0, .int .i64 0, .int .i64 0]), .cl (.bool false)] []))
 (
  cond (decide ((0 : Int) <= r1)) (
  cond (decide (r1 < 3)) (
  Option.bind ([512, 768, 1024][(0 + (Int.toNat r1))]?) fun (e3 : Int) =>
  cond (stI64 e3) (
  let r4 : Int := (kemSet e3).1.getD 0 0
  let r5 : Int := (kemSet e3).1.getD 1 0
  let r6 : Int := (kemSet e3).1.getD 2 0
  let r7 : Int := (kemSet e3).1.getD 3 0
  let r8 : Int := (kemSet e3).1.getD 4 0
  let r9 : Bool := (kemSet e3).2
  some (.ret [.cl (.agg [.int .i64 r4, .int .i64 r5, .int .i64 r6, .int .i64 r7, .int .i64 r8]), .cl (.bool r9)] [])) none) none) none)) none
theorem gAKem_eq (g : Int) : bodyK Tryd.prog (EAKem) 40 false Tryd.f35 [.cl (.int .i64 g)] [] = gAKem g := by kernel_rfl
end Go.Proofs.YtfkpjbbkdkcdcaaDoorA

namespace Go.Proofs.YtfkpjbbkdkcdcaaDoorA
noncomputable def EARKem : Env := {
 orc := fun g => cond (Nat.beq g 93) (SR26Set) (fun _ _ => Tree.fail)
 pre := fun g => cond (Nat.beq g 93) (preR26Set) (fun _ _ => true)
 byref := fun _ => []
 keep := fun _ => false
 live := fun _ => []
 ren := fun _ => []
 glob := glVal
 nt := 21
 lp := fun _ => none
 xl := fun r => cond (Nat.beq r 0) (some [2, 3]) (none)
}
theorem loopsARKem : ∀ c, Tryd.f36.body = some c -> LoopsOk Tryd.prog (EARKem) 40 c := by
 intro c hc
 cases hc
 exact ⟨trivial, ⟨trivial, ⟨⟨trivial, ⟨⟨trivial, trivial, jn_none rfl⟩, trivial, jn_none rfl⟩, jn_none rfl⟩, ⟨trivial, trivial, jn_none rfl⟩, jn_none rfl⟩, jn_none rfl⟩, jn_none rfl⟩
noncomputable def gARKem (g : Int) : Option Out :=
 cond (decide (g < 51)) (
  some (.ret [.cl (.agg [.int .i64 0, .int .i64 0, .int .i64 0, .int .i64 0, .int .i64 0]), .cl (.bool false)] []))
 (
  cond (decide ((53 : Int) < g)) (
   some (.ret [.cl (.agg [.int .i64 0, .int .i64 0, .int .i64 0, .int .i64 0, .int .i64 0]), .cl (.bool false)] []))
  (
   let x1 : Int := IntKind.i64.wrap (g - 51)
   cond (decide ((0 : Int) <= x1)) (
   cond (decide (x1 < 3)) (
   Option.bind ([512, 768, 1024][(0 + (Int.toNat x1))]?) fun (e2 : Int) =>
   cond (stI64 e2) (
   let r3 : Int := (kemSet e2).1.getD 0 0
   let r4 : Int := (kemSet e2).1.getD 1 0
   let r5 : Int := (kemSet e2).1.getD 2 0
   let r6 : Int := (kemSet e2).1.getD 3 0
   let r7 : Int := (kemSet e2).1.getD 4 0
   let r8 : Bool := (kemSet e2).2
   some (.ret [.cl (.agg [.int .i64 r3, .int .i64 r4, .int .i64 r5, .int .i64 r6, .int .i64 r7]), .cl (.bool r8)] [])) none) none) none))
theorem gARKem_eq (g : Int) : bodyK Tryd.prog (EARKem) 40 false Tryd.f36 [.cl (.int .i64 g)] [] = gARKem g := by kernel_rfl
end Go.Proofs.YtfkpjbbkdkcdcaaDoorA

namespace Go.Proofs.YtfkpjbbkdkcdcaaDoorA
noncomputable def ESHSet : Env := {
 orc := fun _ => fun _ _ => Tree.fail
 pre := fun _ => fun _ _ => true
 byref := fun _ => []
 keep := fun _ => false
 live := fun _ => []
 ren := fun _ => []
 glob := glVal
 nt := 31
 lp := fun _ => none
 xl := fun r => cond (Nat.beq r 0) (some [2, 3]) (none)
}
theorem loopsSHSet : ∀ c, Tryd.f90.body = some c -> LoopsOk Tryd.prog (ESHSet) 40 c := by
 intro c hc
 cases hc
 exact ⟨trivial, ⟨⟨trivial, ⟨⟨trivial, trivial, jn_none rfl⟩, trivial, jn_none rfl⟩, jn_none rfl⟩, ⟨trivial, ⟨trivial, trivial, jn_none rfl⟩, jn_none rfl⟩, jn_none rfl⟩, jn_none rfl⟩
noncomputable def gSHSet (g : Int) : Option Out :=
 cond (decide (g < 1)) (
  some (.ret [.cl (.agg [.int .i64 0, .int .i64 0, .int .i64 0, .int .i64 0, .int .i64 0, .bool false]), .cl (.bool false)] []))
 (
  cond (decide ((12 : Int) < g)) (
   some (.ret [.cl (.agg [.int .i64 0, .int .i64 0, .int .i64 0, .int .i64 0, .int .i64 0, .bool false]), .cl (.bool false)] []))
  (
   let x1 : Int := IntKind.i64.wrap (g - 1)
   let x2 : Int := IntKind.i64.wrap (Int.tdiv x1 2)
   cond (decide ((0 : Int) <= x2)) (
   cond (decide (x2 < 6)) (
   Option.bind ((shut (slhKindsL.map fun l => .aggi 5 .i64 l))[(Int.toNat x2)]?) fun (e3 : CV) =>
   let e4 : CV := (cell1 e3).headD .nili
   let e5 : CV := (cell1 e3).tail.headD .nili
   let e6 : CV := (cell1 e3).tail.tail.headD .nili
   let e7 : CV := (cell1 e3).tail.tail.tail.headD .nili
   let e8 : CV := (cell1 e3).tail.tail.tail.tail.headD .nili
   cond (okInt .i64 e4 && (okInt .i64 e5 && (okInt .i64 e6 && (okInt .i64 e7 && (okInt .i64 e8 && true))))) (
   let i9 : Int := cvInt e4
   let i10 : Int := cvInt e5
   let i11 : Int := cvInt e6
   let i12 : Int := cvInt e7
   let i13 : Int := cvInt e8
   let x14 : Int := Int.tmod g 2
   some (.ret [.cl (.agg [.int .i64 i9, .int .i64 i10, .int .i64 i11, .int .i64 i12, .int .i64 i13, .bool (decide (x14 = 0))]), .cl (.bool true)] [])) none) none) none))
theorem gSHSet_eq (g : Int) : bodyK Tryd.prog (ESHSet) 40 false Tryd.f90 [.cl (.int .i64 g)] [] = gSHSet g := by kernel_rfl
end Go.Proofs.YtfkpjbbkdkcdcaaDoorA

namespace Go.Proofs.YtfkpjbbkdkcdcaaDoorA
noncomputable def ER20Set : Env := {
 orc := fun _ => fun _ _ => Tree.fail
 pre := fun _ => fun _ _ => true
 byref := fun _ => []
 keep := fun _ => false
 live := fun _ => []
 ren := fun _ => []
 glob := glVal
 nt := 49
 lp := fun _ => none
 xl := fun r => cond (Nat.beq r 0) (some [2, 3]) (none)
}
theorem loopsR20Set : ∀ c, Tryd.f91.body = some c -> LoopsOk Tryd.prog (ER20Set) 40 c := by
 intro c hc
 cases hc
 exact ⟨trivial, ⟨trivial, ⟨trivial, ⟨trivial, ⟨trivial, ⟨trivial, ⟨⟨trivial, ⟨⟨trivial, trivial, jn_none rfl⟩, trivial, jn_none rfl⟩, jn_none rfl⟩, ⟨trivial, ⟨trivial, trivial, jn_none rfl⟩, jn_none rfl⟩, jn_none rfl⟩, jn_none rfl⟩, jn_none rfl⟩, jn_none rfl⟩, jn_none rfl⟩, jn_none rfl⟩, jn_none rfl⟩
noncomputable def gR20Set (g : Int) : Option Out :=
 cond (decide (g < 1)) (
  some (.ret [.cl (.agg [.int .i64 0, .int .i64 0, .int .i64 0, .int .i64 0, .int .i64 0, .bool false]), .cl (.bool false)] []))
 (
  cond (decide ((12 : Int) < g)) (
   some (.ret [.cl (.agg [.int .i64 0, .int .i64 0, .int .i64 0, .int .i64 0, .int .i64 0, .bool false]), .cl (.bool false)] []))
  (
   let x1 : Int := IntKind.i64.wrap (g - 1)
   let x2 : Int := IntKind.i64.wrap (Int.tdiv x1 2)
   cond (decide ((0 : Int) <= x2)) (
   cond (decide (x2 < 6)) (
   Option.bind ([16, 16, 24, 24, 32, 32][(0 + (Int.toNat x2))]?) fun (e3 : Int) =>
   cond (decide ((0 : Int) <= x2)) (
   cond (decide (x2 < 6)) (
   Option.bind ([63, 66, 63, 66, 64, 68][(0 + (Int.toNat x2))]?) fun (e4 : Int) =>
   cond (decide ((0 : Int) <= x2)) (
   cond (decide (x2 < 6)) (
   Option.bind ([7, 22, 7, 22, 8, 17][(0 + (Int.toNat x2))]?) fun (e5 : Int) =>
   cond (decide ((0 : Int) <= x2)) (
   cond (decide (x2 < 6)) (
   Option.bind ([12, 6, 14, 8, 14, 9][(0 + (Int.toNat x2))]?) fun (e6 : Int) =>
   cond (decide ((0 : Int) <= x2)) (
   cond (decide (x2 < 6)) (
   Option.bind ([14, 33, 17, 33, 22, 35][(0 + (Int.toNat x2))]?) fun (e7 : Int) =>
   let x8 : Int := Int.tmod g 2
   some (.ret [.cl (.agg [.int .i64 e3, .int .i64 e4, .int .i64 e5, .int .i64 e6, .int .i64 e7, .bool (decide (x8 = 0))]), .cl (.bool true)] [])) none) none) none) none) none) none) none) none) none) none))
theorem gR20Set_eq (g : Int) : bodyK Tryd.prog (ER20Set) 40 false Tryd.f91 [.cl (.int .i64 g)] [] = gR20Set g := by kernel_rfl
end Go.Proofs.YtfkpjbbkdkcdcaaDoorA

namespace Go.Proofs.YtfkpjbbkdkcdcaaDoorA
noncomputable def EASlh : Env := {
 orc := fun g => cond (Nat.beq g 90) (SSHSet) (fun _ _ => Tree.fail)
 pre := fun g => cond (Nat.beq g 90) (preSHSet) (fun _ _ => true)
 byref := fun _ => []
 keep := fun _ => false
 live := fun _ => []
 ren := fun _ => []
 glob := glVal
 nt := 28
 lp := fun _ => none
 xl := fun r => cond (Nat.beq r 0) (some [2, 3]) (none)
}
theorem loopsASlh : ∀ c, Tryd.f33.body = some c -> LoopsOk Tryd.prog (EASlh) 40 c := by
 intro c hc
 cases hc
 exact ⟨trivial, ⟨⟨trivial, ⟨trivial, ⟨⟨trivial, trivial, jn_none rfl⟩, trivial, jn_none rfl⟩, jn_none rfl⟩, jn_none rfl⟩, ⟨⟨trivial, ⟨⟨trivial, trivial, jn_none rfl⟩, trivial, jn_none rfl⟩, jn_none rfl⟩, ⟨trivial, trivial, jn_none rfl⟩, jn_none rfl⟩, jn_none rfl⟩, jn_none rfl⟩
noncomputable def gASlh (g : Int) : Option Out :=
 let x1 : Int := IntKind.i64.wrap (g - 33)
 cond (decide (x1 = 0)) (
  some (.ret [.cl (.agg [.int .i64 16, .int .i64 2, .int .i64 1, .int .i64 2, .int .i64 3, .bool (decide (x1 = 1))]), .cl (.bool true)] []))
 (
  cond (decide (x1 = 1)) (
   some (.ret [.cl (.agg [.int .i64 16, .int .i64 2, .int .i64 1, .int .i64 2, .int .i64 3, .bool (decide (x1 = 1))]), .cl (.bool true)] []))
  (
   cond (decide (g <= 20)) (
    some (.ret [.cl (.agg [.int .i64 0, .int .i64 0, .int .i64 0, .int .i64 0, .int .i64 0, .bool false]), .cl (.bool false)] []))
   (
    cond (decide ((32 : Int) < g)) (
     some (.ret [.cl (.agg [.int .i64 0, .int .i64 0, .int .i64 0, .int .i64 0, .int .i64 0, .bool false]), .cl (.bool false)] []))
    (
     let x2 : Int := IntKind.i64.wrap (g - 20)
     cond (stI64 x2) (
     let r3 : Int := (slhSet x2).1.getD 0 0
     let r4 : Int := (slhSet x2).1.getD 1 0
     let r5 : Int := (slhSet x2).1.getD 2 0
     let r6 : Int := (slhSet x2).1.getD 3 0
     let r7 : Int := (slhSet x2).1.getD 4 0
     let r8 : Bool := (slhSet x2).2.1
     let r9 : Bool := (slhSet x2).2.2
     some (.ret [.cl (.agg [.int .i64 r3, .int .i64 r4, .int .i64 r5, .int .i64 r6, .int .i64 r7, .bool r8]), .cl (.bool r9)] [])) none))))
theorem gASlh_eq (g : Int) : bodyK Tryd.prog (EASlh) 40 false Tryd.f33 [.cl (.int .i64 g)] [] = gASlh g := by kernel_rfl
end Go.Proofs.YtfkpjbbkdkcdcaaDoorA

namespace Go.Proofs.YtfkpjbbkdkcdcaaDoorA
noncomputable def EARSlh : Env := {
 orc := fun g => cond (Nat.beq g 91) (SR20Set) (fun _ _ => Tree.fail)
 pre := fun g => cond (Nat.beq g 91) (preR20Set) (fun _ _ => true)
 byref := fun _ => []
 keep := fun _ => false
 live := fun _ => []
 ren := fun _ => []
 glob := glVal
 nt := 25
 lp := fun _ => none
 xl := fun r => cond (Nat.beq r 0) (some [2, 3]) (none)
}
theorem loopsARSlh : ∀ c, Tryd.f34.body = some c -> LoopsOk Tryd.prog (EARSlh) 40 c := by
 intro c hc
 cases hc
 exact ⟨trivial, ⟨⟨trivial, ⟨⟨trivial, trivial, jn_none rfl⟩, trivial, jn_none rfl⟩, jn_none rfl⟩, ⟨⟨trivial, ⟨⟨trivial, trivial, jn_none rfl⟩, trivial, jn_none rfl⟩, jn_none rfl⟩, ⟨trivial, trivial, jn_none rfl⟩, jn_none rfl⟩, jn_none rfl⟩, jn_none rfl⟩
noncomputable def gARSlh (g : Int) : Option Out :=
 cond (decide (g = 33)) (
  some (.ret [.cl (.agg [.int .i64 16, .int .i64 2, .int .i64 1, .int .i64 2, .int .i64 3, .bool (decide (g = 34))]), .cl (.bool true)] []))
 (
  cond (decide (g = 34)) (
   some (.ret [.cl (.agg [.int .i64 16, .int .i64 2, .int .i64 1, .int .i64 2, .int .i64 3, .bool (decide (g = 34))]), .cl (.bool true)] []))
  (
   cond (decide (g < 21)) (
    some (.ret [.cl (.agg [.int .i64 0, .int .i64 0, .int .i64 0, .int .i64 0, .int .i64 0, .bool false]), .cl (.bool false)] []))
   (
    cond (decide ((32 : Int) < g)) (
     some (.ret [.cl (.agg [.int .i64 0, .int .i64 0, .int .i64 0, .int .i64 0, .int .i64 0, .bool false]), .cl (.bool false)] []))
    (
     let x1 : Int := IntKind.i64.wrap (g - 20)
     cond (stI64 x1) (
     let r2 : Int := (slhSet x1).1.getD 0 0
     let r3 : Int := (slhSet x1).1.getD 1 0
     let r4 : Int := (slhSet x1).1.getD 2 0
     let r5 : Int := (slhSet x1).1.getD 3 0
     let r6 : Int := (slhSet x1).1.getD 4 0
     let r7 : Bool := (slhSet x1).2.1
     let r8 : Bool := (slhSet x1).2.2
     some (.ret [.cl (.agg [.int .i64 r2, .int .i64 r3, .int .i64 r4, .int .i64 r5, .int .i64 r6, .bool r7]), .cl (.bool r8)] [])) none))))
theorem gARSlh_eq (g : Int) : bodyK Tryd.prog (EARSlh) 40 false Tryd.f34 [.cl (.int .i64 g)] [] = gARSlh g := by kernel_rfl
end Go.Proofs.YtfkpjbbkdkcdcaaDoorA

namespace Go.Proofs.YtfkpjbbkdkcdcaaDoorA
noncomputable def EARNist : Env := {
 orc := fun _ => fun _ _ => Tree.fail
 pre := fun _ => fun _ _ => true
 byref := fun _ => []
 keep := fun _ => false
 live := fun _ => []
 ren := fun _ => []
 glob := glVal
 nt := 8
 lp := fun _ => none
 xl := fun r => cond (Nat.beq r 0) (some [4]) (none)
}
theorem loopsARNist : ∀ c, Tryd.f95.body = some c -> LoopsOk Tryd.prog (EARNist) 40 c := by
 intro c hc
 cases hc
 exact ⟨trivial, ⟨trivial, trivial, jn_none rfl⟩, jn_none rfl⟩
noncomputable def gARNist (g : Int) (h : Int) : Option Out :=
 some (.ret [.cl (.sli .u32 [2, 16, 840, 1, 101, 3, 4, g, h])] [])
theorem gARNist_eq (g : Int) (h : Int) : bodyK Tryd.prog (EARNist) 40 false Tryd.f95 [.cl (.int .u32 g), .cl (.int .u32 h)] [] = gARNist g h := by kernel_rfl
end Go.Proofs.YtfkpjbbkdkcdcaaDoorA

namespace Go.Proofs.YtfkpjbbkdkcdcaaDoorA
noncomputable def EARPkcs : Env := {
 orc := fun _ => fun _ _ => Tree.fail
 pre := fun _ => fun _ _ => true
 byref := fun _ => []
 keep := fun _ => false
 live := fun _ => []
 ren := fun _ => []
 glob := glVal
 nt := 8
 lp := fun _ => none
 xl := fun r => cond (Nat.beq r 0) (some [2]) (none)
}
theorem loopsARPkcs : ∀ c, Tryd.f96.body = some c -> LoopsOk Tryd.prog (EARPkcs) 40 c := by
 intro c hc
 cases hc
 exact ⟨trivial, ⟨trivial, ⟨trivial, trivial, jn_none rfl⟩, jn_none rfl⟩, jn_none rfl⟩
noncomputable def gARPkcs (o : List Int) : Option Out :=
 let l1 : List Int := [1, 2, 840, 113549, 1] ++ o
 rmK l1.length 4 <|
 some (.ret [.cl (.sli .u32 l1)] [])
theorem gARPkcs_eq (o : List Int) : bodyK Tryd.prog (EARPkcs) 40 false Tryd.f96 [.cl (.sli .u32 o)] [] = gARPkcs o := by kernel_rfl
end Go.Proofs.YtfkpjbbkdkcdcaaDoorA

namespace Go.Proofs.YtfkpjbbkdkcdcaaDoorA
noncomputable def EAUsed : Env := {
 orc := fun _ => fun _ _ => Tree.fail
 pre := fun _ => fun _ _ => true
 byref := fun _ => []
 keep := fun _ => false
 live := fun _ => []
 ren := fun _ => []
 glob := glVal
 nt := 8
 lp := fun _ => none
 xl := fun r => cond (Nat.beq r 0) (some [2]) (none)
}
theorem loopsAUsed : ∀ c, Tryd.f102.body = some c -> LoopsOk Tryd.prog (EAUsed) 40 c := by
 intro c hc
 cases hc
 exact ⟨trivial, ⟨⟨trivial, ⟨trivial, ⟨⟨trivial, trivial, jn_none rfl⟩, ⟨trivial, ⟨⟨trivial, trivial, jn_none rfl⟩, trivial, jn_none rfl⟩, jn_none rfl⟩, jn_none rfl⟩, jn_none rfl⟩, jn_none rfl⟩, ⟨trivial, trivial, jn_none rfl⟩, jn_none rfl⟩, jn_none rfl⟩
noncomputable def gAUsed (g : Int) : Option Out :=
 cond (decide (g = 6)) (
  some (.ret [.cl (.int .i64 16)] []))
 (
  cond (decide (g = 7)) (
   some (.ret [.cl (.int .i64 12)] []))
  (
   some (.ret [.cl (.int .i64 0)] [])))
theorem gAUsed_eq (g : Int) : bodyK Tryd.prog (EAUsed) 40 false Tryd.f102 [.cl (.int .i64 g)] [] = gAUsed g := by kernel_rfl
end Go.Proofs.YtfkpjbbkdkcdcaaDoorA

namespace Go.Proofs.YtfkpjbbkdkcdcaaDoorA
noncomputable def EANode : Env := {
 orc := fun g => cond (Nat.beq g 14) (SVInt) (cond (Nat.beq g 53) (SVSeq) (cond (Nat.beq g 59) (SVId) (cond (Nat.beq g 64) (SVBytes) (cond (Nat.beq g 94) (SAFound) (cond (Nat.beq g 102) (SAUsed) (fun _ _ => Tree.fail))))))
 pre := fun g => cond (Nat.beq g 14) (preVInt) (cond (Nat.beq g 53) (preVSeq) (cond (Nat.beq g 59) (preVId) (cond (Nat.beq g 64) (preVBytes) (cond (Nat.beq g 94) (preAFound) (cond (Nat.beq g 102) (preAUsed) (fun _ _ => true))))))
 byref := fun _ => []
 keep := fun _ => false
 live := fun _ => []
 ren := fun _ => []
 glob := glVal
 nt := 52
 lp := fun _ => none
 xl := fun r => cond (Nat.beq r 0) (some [4, 5]) (none)
}
theorem loopsANode : ∀ c, Tryd.f55.body = some c -> LoopsOk Tryd.prog (EANode) 40 c := by
 intro c hc
 cases hc
 exact ⟨trivial, ⟨trivial, ⟨⟨trivial, ⟨⟨trivial, trivial, jn_none rfl⟩, ⟨trivial, ⟨⟨trivial, trivial, jn_none rfl⟩, trivial, jn_none rfl⟩, jn_none rfl⟩, jn_none rfl⟩, jn_none rfl⟩, ⟨trivial, ⟨⟨trivial, ⟨trivial, ⟨⟨trivial, trivial, jn_none rfl⟩, ⟨trivial, ⟨⟨trivial, trivial, jn_none rfl⟩, trivial, jn_none rfl⟩, jn_none rfl⟩, jn_none rfl⟩, jn_none rfl⟩, jn_none rfl⟩, ⟨trivial, trivial, jn_none rfl⟩, jn_none rfl⟩, jn_none rfl⟩, jn_none rfl⟩, jn_none rfl⟩, jn_none rfl⟩
noncomputable def gANode (g : Int) (b : List Int) : Option Out :=
 let r2 : Int := (algFound g).2.1
 let r3 : List Int := (algFound g).2.2
 cond (decide (r2 = 0)) (
  some (.ret [.cl (.agg [.int .i64 0, .sli .u8 [], .slg 3 []]), .cl (.int .i64 9)] []))
 (
  let r4 : Int := algUsed r2
  cond (!decide (((b.length : Nat) : Int) = r4)) (
   some (.ret [.cl (.agg [.int .i64 0, .sli .u8 [], .slg 3 []]), .cl (.int .i64 14)] []))
  (
   cond (idOk r3) (
   let r5 : Int := (vMade 6 (oidBytes r3)).1
   let r6 : List Int := (vMade 6 (oidBytes r3)).2.1
   let r7 : List CV := noKids
   cond (decide (r2 = 6)) (
    cond (lenOk b) (
    let r9 : List CV := noKids
    cond (lenOkC ([.agg [.int .i64 r5, .sli .u8 r6, .slg 3 r7], .agg [.int .i64 4, .sli .u8 b, .slg 3 r9]])) (
    let r10 : List Int := noInts
    some (.ret [.cl (.agg [.int .i64 48, .sli .u8 r10, .slg 3 ([.agg [.int .i64 r5, .sli .u8 r6, .slg 3 r7], .agg [.int .i64 4, .sli .u8 b, .slg 3 r9]])]), .cl (.int .i64 0)] [])) none) none)
   (
    cond (decide (r2 = 7)) (
     cond (lenOk b) (
     let r11 : List CV := noKids
     cond (stI64 16) (
     let r12 : List Int := vInt 16
     let r13 : List CV := noKids
     cond (lenOkC ([.agg [.int .i64 4, .sli .u8 b, .slg 3 r11], .agg [.int .i64 2, .sli .u8 r12, .slg 3 r13]])) (
     let r14 : List Int := noInts
     cond (lenOkC ([.agg [.int .i64 r5, .sli .u8 r6, .slg 3 r7], .agg [.int .i64 48, .sli .u8 r14, .slg 3 ([.agg [.int .i64 4, .sli .u8 b, .slg 3 r11], .agg [.int .i64 2, .sli .u8 r12, .slg 3 r13]])]])) (
     let r15 : List Int := noInts
     some (.ret [.cl (.agg [.int .i64 48, .sli .u8 r15, .slg 3 ([.agg [.int .i64 r5, .sli .u8 r6, .slg 3 r7], .agg [.int .i64 48, .sli .u8 r14, .slg 3 ([.agg [.int .i64 4, .sli .u8 b, .slg 3 r11], .agg [.int .i64 2, .sli .u8 r12, .slg 3 r13]])]])]), .cl (.int .i64 0)] [])) none) none) none) none)
    (
     cond (lenOkC ([.agg [.int .i64 r5, .sli .u8 r6, .slg 3 r7]])) (
     let r16 : List Int := noInts
     some (.ret [.cl (.agg [.int .i64 48, .sli .u8 r16, .slg 3 ([.agg [.int .i64 r5, .sli .u8 r6, .slg 3 r7]])]), .cl (.int .i64 0)] [])) none))) none))
theorem gANode_eq (g : Int) (b : List Int) : bodyK Tryd.prog (EANode) 40 false Tryd.f55 [.cl (.int .i64 g), .cl (.sli .u8 b)] [] = gANode g b := by kernel_rfl
end Go.Proofs.YtfkpjbbkdkcdcaaDoorA

namespace Go.Proofs.YtfkpjbbkdkcdcaaDoorA
noncomputable def EAAwake : Env := {
 orc := fun g => cond (Nat.beq g 29) (SR2Same) (cond (Nat.beq g 39) (SAId) (cond (Nat.beq g 41) (SAOf) (cond (Nat.beq g 55) (SANode) (fun _ _ => Tree.fail))))
 pre := fun g => cond (Nat.beq g 29) (preR2Same) (cond (Nat.beq g 39) (preAId) (cond (Nat.beq g 41) (preAOf) (cond (Nat.beq g 55) (preANode) (fun _ _ => true))))
 byref := fun _ => []
 keep := fun _ => false
 live := fun _ => []
 ren := fun _ => []
 glob := glVal
 nt := 20
 lp := fun _ => none
 xl := fun r => cond (Nat.beq r 0) (some [0]) (none)
}
theorem loopsAAwake : ∀ c, Tryd.f30.body = some c -> LoopsOk Tryd.prog (EAAwake) 40 c := by
 intro c hc
 cases hc
 exact ⟨trivial, ⟨trivial, ⟨trivial, trivial, jn_none rfl⟩, jn_none rfl⟩, jn_none rfl⟩
noncomputable def gAAwake  : Option Out :=
 cond (lenOk [0, 0, 0, 0, 0, 0, 0, 0, 0, 0, 0]) (
 let r4 : Int := (algNode 91 [0, 0, 0, 0, 0, 0, 0, 0, 0, 0, 0]).2.2
 let r5 : List Int := (algFound 11).2.2
 cond (lenOk r5) (
 let r6 : Bool := listSame r5 [2, 16, 840, 1, 101, 3, 4, 3, 17]
 cond (r6) (
  let r7 : Int := algOf [2, 5]
  cond (decide (r7 = 0)) (
   some (.ret [.cl (.bool (decide (r4 = 14)))] []))
  (
   some (.ret [.cl (.bool false)] [])))
 (
  some (.ret [.cl (.bool false)] []))) none) none
theorem gAAwake_eq  : bodyK Tryd.prog (EAAwake) 40 false Tryd.f30 [] [] = gAAwake  := by kernel_rfl
end Go.Proofs.YtfkpjbbkdkcdcaaDoorA

namespace Go.Proofs.YtfkpjbbkdkcdcaaDoorA
noncomputable def EALTells : Env := {
 orc := fun g => cond (Nat.beq g 29) (SR2Same) (cond (Nat.beq g 30) (SAAwake) (cond (Nat.beq g 31) (SADsa) (cond (Nat.beq g 32) (SARDsa) (cond (Nat.beq g 33) (SASlh) (cond (Nat.beq g 34) (SARSlh) (cond (Nat.beq g 35) (SAKem) (cond (Nat.beq g 36) (SARKem) (cond (Nat.beq g 37) (SAGroup) (cond (Nat.beq g 38) (SARGroup) (cond (Nat.beq g 39) (SAId) (cond (Nat.beq g 40) (SARId) (cond (Nat.beq g 41) (SAOf) (cond (Nat.beq g 42) (SAROf) (cond (Nat.beq g 43) (SAName) (cond (Nat.beq g 44) (SARName) (cond (Nat.beq g 45) (SASize) (cond (Nat.beq g 46) (SARSize) (fun _ _ => Tree.fail))))))))))))))))))
 pre := fun g => cond (Nat.beq g 29) (preR2Same) (cond (Nat.beq g 30) (preAAwake) (cond (Nat.beq g 31) (preADsa) (cond (Nat.beq g 32) (preARDsa) (cond (Nat.beq g 33) (preASlh) (cond (Nat.beq g 34) (preARSlh) (cond (Nat.beq g 35) (preAKem) (cond (Nat.beq g 36) (preARKem) (cond (Nat.beq g 37) (preAGroup) (cond (Nat.beq g 38) (preARGroup) (cond (Nat.beq g 39) (preAId) (cond (Nat.beq g 40) (preARId) (cond (Nat.beq g 41) (preAOf) (cond (Nat.beq g 42) (preAROf) (cond (Nat.beq g 43) (preAName) (cond (Nat.beq g 44) (preARName) (cond (Nat.beq g 45) (preASize) (cond (Nat.beq g 46) (preARSize) (fun _ _ => true))))))))))))))))))
 byref := fun _ => []
 keep := fun _ => false
 live := fun _ => []
 ren := fun _ => []
 glob := glVal
 nt := 115
 lp := fun _ => none
 xl := fun r => cond (Nat.beq r 0) (some [4]) (none)
}
theorem loopsALTells : ∀ c, Tryd.f5.body = some c -> LoopsOk Tryd.prog (EALTells) 40 c := by
 intro c hc
 cases hc
 exact ⟨trivial, ⟨⟨trivial, ⟨⟨trivial, trivial, jn_none rfl⟩, trivial, jn_none rfl⟩, jn_none rfl⟩, ⟨trivial, ⟨trivial, ⟨trivial, ⟨trivial, ⟨trivial, ⟨trivial, ⟨⟨trivial, ⟨⟨trivial, trivial, jn_none rfl⟩, trivial, jn_none rfl⟩, jn_none rfl⟩, ⟨trivial, trivial, jn_none rfl⟩, jn_none rfl⟩, jn_none rfl⟩, jn_none rfl⟩, jn_none rfl⟩, jn_none rfl⟩, jn_none rfl⟩, jn_none rfl⟩, jn_none rfl⟩, jn_none rfl⟩
noncomputable def gALTells (g : Int) (o : List Int) : Option Out :=
 cond (decide ((50 : Int) < ((o.length : Nat) : Int))) (
  let r1 : Bool := true
  some (.ret [.cl (.bool r1)] []))
 (
  cond (stI64 g) (
  let r2 : Int := (algDsa g).1.getD 0 0
  let r3 : Int := (algDsa g).1.getD 1 0
  let r4 : Int := (algDsa g).1.getD 2 0
  let r5 : Int := (algDsa g).1.getD 3 0
  let r6 : Int := (algDsa g).1.getD 4 0
  let r7 : Int := (algDsa g).1.getD 5 0
  let r8 : Int := (algDsa g).1.getD 6 0
  let r9 : Int := (algDsa g).1.getD 7 0
  let r10 : Bool := (algDsa g).2
  cond (stI64 g) (
  let r11 : Int := (algDsa g).1.getD 0 0
  let r12 : Int := (algDsa g).1.getD 1 0
  let r13 : Int := (algDsa g).1.getD 2 0
  let r14 : Int := (algDsa g).1.getD 3 0
  let r15 : Int := (algDsa g).1.getD 4 0
  let r16 : Int := (algDsa g).1.getD 5 0
  let r17 : Int := (algDsa g).1.getD 6 0
  let r18 : Int := (algDsa g).1.getD 7 0
  let r19 : Bool := (algDsa g).2
  cond (stI64 g) (
  let r20 : Int := (algSlh g).1.getD 0 0
  let r21 : Int := (algSlh g).1.getD 1 0
  let r22 : Int := (algSlh g).1.getD 2 0
  let r23 : Int := (algSlh g).1.getD 3 0
  let r24 : Int := (algSlh g).1.getD 4 0
  let r25 : Bool := (algSlh g).2.1
  let r26 : Bool := (algSlh g).2.2
  cond (stI64 g) (
  let r27 : Int := (algSlh g).1.getD 0 0
  let r28 : Int := (algSlh g).1.getD 1 0
  let r29 : Int := (algSlh g).1.getD 2 0
  let r30 : Int := (algSlh g).1.getD 3 0
  let r31 : Int := (algSlh g).1.getD 4 0
  let r32 : Bool := (algSlh g).2.1
  let r33 : Bool := (algSlh g).2.2
  cond (stI64 g) (
  let r34 : Int := (algKem g).1.getD 0 0
  let r35 : Int := (algKem g).1.getD 1 0
  let r36 : Int := (algKem g).1.getD 2 0
  let r37 : Int := (algKem g).1.getD 3 0
  let r38 : Int := (algKem g).1.getD 4 0
  let r39 : Bool := (algKem g).2
  cond (stI64 g) (
  let r40 : Int := (algKem g).1.getD 0 0
  let r41 : Int := (algKem g).1.getD 1 0
  let r42 : Int := (algKem g).1.getD 2 0
  let r43 : Int := (algKem g).1.getD 3 0
  let r44 : Int := (algKem g).1.getD 4 0
  let r45 : Bool := (algKem g).2
  cond (!(decide (r2 = r11) && (decide (r3 = r12) && (decide (r4 = r13) && (decide (r5 = r14) && (decide (r6 = r15) && (decide (r7 = r16) && (decide (r8 = r17) && (decide (r9 = r18) && true))))))))) (
   some (.ret [.cl (.bool false)] []))
  (
   cond (!(r10 == r19)) (
    some (.ret [.cl (.bool false)] []))
   (
    cond (!(decide (r20 = r27) && (decide (r21 = r28) && (decide (r22 = r29) && (decide (r23 = r30) && (decide (r24 = r31) && ((r25 == r32) && true))))))) (
     some (.ret [.cl (.bool false)] []))
    (
     cond (!(r26 == r33)) (
      some (.ret [.cl (.bool false)] []))
     (
      cond (!(decide (r34 = r40) && (decide (r35 = r41) && (decide (r36 = r42) && (decide (r37 = r43) && (decide (r38 = r44) && true)))))) (
       some (.ret [.cl (.bool false)] []))
      (
       cond (!(r39 == r45)) (
        some (.ret [.cl (.bool false)] []))
       (
        let r46 : Int := (algFound g).2.1
        let r47 : Int := (algFound g).2.1
        cond (decide (r46 = r47)) (
         let r48 : List Int := (algFound g).2.2
         let r49 : List Int := (algFound g).2.2
         cond (lenOk r48) (
         let r50 : Bool := listSame r48 r49
         cond (r50) (
          let r51 : Int := algOf o
          let r52 : Int := algOf o
          cond (decide (r51 = r52)) (
           let r53 : List Int := algName g
           let r54 : List Int := algName g
           cond (lenOk r53) (
           let r55 : Bool := listSame r53 r54
           cond (r55) (
            cond (stI64 g) (
            let r56 : Int := algSize g
            cond (stI64 g) (
            let r57 : Int := algSize g
            cond (decide (r56 = r57)) (
             let r58 : Bool := true
             some (.ret [.cl (.bool r58)] []))
            (
             some (.ret [.cl (.bool false)] []))) none) none)
           (
            some (.ret [.cl (.bool false)] []))) none)
          (
           some (.ret [.cl (.bool false)] [])))
         (
          some (.ret [.cl (.bool false)] []))) none)
        (
         some (.ret [.cl (.bool false)] []))))))))) none) none) none) none) none) none)
theorem gALTells_eq (g : Int) (o : List Int) : bodyK Tryd.prog (EALTells) 40 false Tryd.f5 [.cl (.int .i64 g), .cl (.sli .u32 o)] [] = gALTells g o := by kernel_rfl
end Go.Proofs.YtfkpjbbkdkcdcaaDoorA

namespace Go.Proofs.YtfkpjbbkdkcdcaaDoorA
noncomputable def lpONums_0s (l : Nat) (again : (List Int) -> Option Out) (k0 : Int -> Int -> (List Int) -> Int -> Int -> Int -> (List Int) -> Int -> Int -> Int -> Int -> Int -> Int -> Bool -> (List Int) -> Option Out) (k1 : Int -> Int -> (List Int) -> Int -> Int -> Int -> (List Int) -> Int -> Int -> Int -> Int -> Int -> Int -> Bool -> Int -> Bool -> (List Int) -> Option Out) (k2 : (List Int) -> Int -> (List Int) -> Option Out) (v1 : List Int) : Option Out :=
 cond (decide ((0 : Int) < ((v1.length : Nat) : Int))) (
  cond (bytesOk v1) (
  let r1 : Int := (oidNumber v1).1
  let r2 : Int := (oidNumber v1).2
  cond (Nat.beq l l) (
  yldO [.int .u32 r1, .bool (decide ((0 : Int) < r2))] (
   k0 r1 r2 v1 ((v1.length : Nat) : Int) r1 r2 v1 r1 r2 r1 r2 r1 r2 (decide ((0 : Int) < r2)) v1)
  (
   cond (decide (r2 = 0)) (
    k1 r1 r2 v1 ((v1.length : Nat) : Int) r1 r2 v1 r1 r2 r1 r2 r1 r2 (decide ((0 : Int) < r2)) r2 (decide (r2 = 0)) v1)
   (
    cond (decide ((0 : Int) <= r2)) (
    cond (decide (r2 <= ((v1.length : Nat) : Int))) (
    let l3 : List Int := List.drop (Int.toNat r2) v1
    again l3) none) none))) none) none)
 (
  k2 v1 ((v1.length : Nat) : Int) v1)
noncomputable def lpONums_0 (l : Nat) (k0 : Int -> Int -> (List Int) -> Int -> Int -> Int -> (List Int) -> Int -> Int -> Int -> Int -> Int -> Int -> Bool -> (List Int) -> Option Out) (k1 : Int -> Int -> (List Int) -> Int -> Int -> Int -> (List Int) -> Int -> Int -> Int -> Int -> Int -> Int -> Bool -> Int -> Bool -> (List Int) -> Option Out) (k2 : (List Int) -> Int -> (List Int) -> Option Out) : Nat -> (List Int) -> Option Out
 | 0 => fun _ => none
 | n + 1 => lpONums_0s l (lpONums_0 l k0 k1 k2 n) k0 k1 k2
noncomputable def LONums_0 (l : Nat) : St -> (Ex -> St -> Option Out) -> Option Out := fun σ k => match σ with
 | ⟨[(q1, .cl (.fn (.yield q2) [] [])), (q3, .ptr q4 q5 q6)], [(q7, ⟨.var [.cl (.sli .u8 v1)], false⟩)]⟩ => cond (Nat.beq q1 0 && Nat.beq q3 1 && Nat.beq q4 0 && Nat.beq q5 0 && Nat.beq q6 0 && Nat.beq q7 0 && Nat.beq l q2) (shut (lpONums_0 l (fun y1 y2 y3 y4 y5 y6 y7 y8 y9 y10 y11 y12 y13 y14 y15 => k .ret ⟨[(0, .cl (.fn (.yield l) [] [])), (1, .ptr 0 0 0), (3, .cl (.int .u32 y1)), (4, .cl (.int .i64 y2)), (5, .cl (.sli .u8 y3)), (6, .cl (.int .i64 y4)), (7, .cl (.bool true)), (8, .tup [.cl (.int .u32 y5), .cl (.int .i64 y6)]), (9, .cl (.sli .u8 y7)), (10, .tup [.cl (.int .u32 y8), .cl (.int .i64 y9)]), (11, .cl (.int .u32 y10)), (12, .cl (.int .i64 y11)), (13, .cl (.fn (.yield l) [] [])), (14, .cl (.int .u32 y12)), (15, .cl (.int .i64 y13)), (16, .cl (.bool y14)), (17, .cl (.bool false)), (18, .cl (.bool true)), (19, .cl (.bool true)), (20, .tup []), (21, .tup []), (22, .cl (.bool true))], [(0, ⟨.var [.cl (.sli .u8 y15)], false⟩)]⟩) (fun y1 y2 y3 y4 y5 y6 y7 y8 y9 y10 y11 y12 y13 y14 y15 y16 y17 => k .ret ⟨[(0, .cl (.fn (.yield l) [] [])), (1, .ptr 0 0 0), (3, .cl (.int .u32 y1)), (4, .cl (.int .i64 y2)), (5, .cl (.sli .u8 y3)), (6, .cl (.int .i64 y4)), (7, .cl (.bool true)), (8, .tup [.cl (.int .u32 y5), .cl (.int .i64 y6)]), (9, .cl (.sli .u8 y7)), (10, .tup [.cl (.int .u32 y8), .cl (.int .i64 y9)]), (11, .cl (.int .u32 y10)), (12, .cl (.int .i64 y11)), (13, .cl (.fn (.yield l) [] [])), (14, .cl (.int .u32 y12)), (15, .cl (.int .i64 y13)), (16, .cl (.bool y14)), (17, .cl (.bool true)), (18, .cl (.bool false)), (19, .cl (.bool false)), (20, .cl (.int .i64 y15)), (21, .cl (.bool y16)), (22, .cl (.bool true))], [(0, ⟨.var [.cl (.sli .u8 y17)], false⟩)]⟩) (fun y1 y2 y3 => k (.exit 0) ⟨[(0, .cl (.fn (.yield l) [] [])), (1, .ptr 0 0 0), (5, .cl (.sli .u8 y1)), (6, .cl (.int .i64 y2)), (7, .cl (.bool false))], [(0, ⟨.var [.cl (.sli .u8 y3)], false⟩)]⟩) FUEL) v1) none
 | _ => none
noncomputable def EONums (l : Nat) : Env := {
 orc := fun g => cond (Nat.beq g 155) (SONumber) (fun _ _ => Tree.fail)
 pre := fun g => cond (Nat.beq g 155) (preONumber) (fun _ _ => true)
 byref := fun _ => []
 keep := fun _ => false
 live := fun r => cond (Nat.beq r 0) ([0, 1]) ([])
 ren := fun _ => []
 glob := glVal
 nt := 26
 lp := fun r => cond (Nat.beq r 0) (some (LONums_0 l)) (none)
 rg := false
 yn := l
 yl := fun r => cond (Nat.beq r 2) (some 4) (none)
}
noncomputable def blpONums_0 : Code := (Cd.fst (Cd.fst (Tryd.f154.body.getD .skip)))
theorem lpONums_0_step (l : Nat) (k : Ex -> St -> Option Out) (n : Nat) (v1 : List Int) : iterK (n + 1) (codeK Tryd.prog (EONums l) 40 blpONums_0) (head (EONums l) 0) ⟨[(0, .cl (.fn (.yield l) [] [])), (1, .ptr 0 0 0)], [(0, ⟨.var [.cl (.sli .u8 v1)], false⟩)]⟩ k = lpONums_0s l (fun v1 => iterK n (codeK Tryd.prog (EONums l) 40 blpONums_0) (head (EONums l) 0) ⟨[(0, .cl (.fn (.yield l) [] [])), (1, .ptr 0 0 0)], [(0, ⟨.var [.cl (.sli .u8 v1)], false⟩)]⟩ k) (fun y1 y2 y3 y4 y5 y6 y7 y8 y9 y10 y11 y12 y13 y14 y15 => k .ret ⟨[(0, .cl (.fn (.yield l) [] [])), (1, .ptr 0 0 0), (3, .cl (.int .u32 y1)), (4, .cl (.int .i64 y2)), (5, .cl (.sli .u8 y3)), (6, .cl (.int .i64 y4)), (7, .cl (.bool true)), (8, .tup [.cl (.int .u32 y5), .cl (.int .i64 y6)]), (9, .cl (.sli .u8 y7)), (10, .tup [.cl (.int .u32 y8), .cl (.int .i64 y9)]), (11, .cl (.int .u32 y10)), (12, .cl (.int .i64 y11)), (13, .cl (.fn (.yield l) [] [])), (14, .cl (.int .u32 y12)), (15, .cl (.int .i64 y13)), (16, .cl (.bool y14)), (17, .cl (.bool false)), (18, .cl (.bool true)), (19, .cl (.bool true)), (20, .tup []), (21, .tup []), (22, .cl (.bool true))], [(0, ⟨.var [.cl (.sli .u8 y15)], false⟩)]⟩) (fun y1 y2 y3 y4 y5 y6 y7 y8 y9 y10 y11 y12 y13 y14 y15 y16 y17 => k .ret ⟨[(0, .cl (.fn (.yield l) [] [])), (1, .ptr 0 0 0), (3, .cl (.int .u32 y1)), (4, .cl (.int .i64 y2)), (5, .cl (.sli .u8 y3)), (6, .cl (.int .i64 y4)), (7, .cl (.bool true)), (8, .tup [.cl (.int .u32 y5), .cl (.int .i64 y6)]), (9, .cl (.sli .u8 y7)), (10, .tup [.cl (.int .u32 y8), .cl (.int .i64 y9)]), (11, .cl (.int .u32 y10)), (12, .cl (.int .i64 y11)), (13, .cl (.fn (.yield l) [] [])), (14, .cl (.int .u32 y12)), (15, .cl (.int .i64 y13)), (16, .cl (.bool y14)), (17, .cl (.bool true)), (18, .cl (.bool false)), (19, .cl (.bool false)), (20, .cl (.int .i64 y15)), (21, .cl (.bool y16)), (22, .cl (.bool true))], [(0, ⟨.var [.cl (.sli .u8 y17)], false⟩)]⟩) (fun y1 y2 y3 => k (.exit 0) ⟨[(0, .cl (.fn (.yield l) [] [])), (1, .ptr 0 0 0), (5, .cl (.sli .u8 y1)), (6, .cl (.int .i64 y2)), (7, .cl (.bool false))], [(0, ⟨.var [.cl (.sli .u8 y3)], false⟩)]⟩) v1 := by kernel_rfl
theorem lpONums_0_eq (l : Nat) (k : Ex -> St -> Option Out) : ∀ (n : Nat), ∀ (v1 : List Int), iterK n (codeK Tryd.prog (EONums l) 40 blpONums_0) (head (EONums l) 0) ⟨[(0, .cl (.fn (.yield l) [] [])), (1, .ptr 0 0 0)], [(0, ⟨.var [.cl (.sli .u8 v1)], false⟩)]⟩ k = lpONums_0 l (fun y1 y2 y3 y4 y5 y6 y7 y8 y9 y10 y11 y12 y13 y14 y15 => k .ret ⟨[(0, .cl (.fn (.yield l) [] [])), (1, .ptr 0 0 0), (3, .cl (.int .u32 y1)), (4, .cl (.int .i64 y2)), (5, .cl (.sli .u8 y3)), (6, .cl (.int .i64 y4)), (7, .cl (.bool true)), (8, .tup [.cl (.int .u32 y5), .cl (.int .i64 y6)]), (9, .cl (.sli .u8 y7)), (10, .tup [.cl (.int .u32 y8), .cl (.int .i64 y9)]), (11, .cl (.int .u32 y10)), (12, .cl (.int .i64 y11)), (13, .cl (.fn (.yield l) [] [])), (14, .cl (.int .u32 y12)), (15, .cl (.int .i64 y13)), (16, .cl (.bool y14)), (17, .cl (.bool false)), (18, .cl (.bool true)), (19, .cl (.bool true)), (20, .tup []), (21, .tup []), (22, .cl (.bool true))], [(0, ⟨.var [.cl (.sli .u8 y15)], false⟩)]⟩) (fun y1 y2 y3 y4 y5 y6 y7 y8 y9 y10 y11 y12 y13 y14 y15 y16 y17 => k .ret ⟨[(0, .cl (.fn (.yield l) [] [])), (1, .ptr 0 0 0), (3, .cl (.int .u32 y1)), (4, .cl (.int .i64 y2)), (5, .cl (.sli .u8 y3)), (6, .cl (.int .i64 y4)), (7, .cl (.bool true)), (8, .tup [.cl (.int .u32 y5), .cl (.int .i64 y6)]), (9, .cl (.sli .u8 y7)), (10, .tup [.cl (.int .u32 y8), .cl (.int .i64 y9)]), (11, .cl (.int .u32 y10)), (12, .cl (.int .i64 y11)), (13, .cl (.fn (.yield l) [] [])), (14, .cl (.int .u32 y12)), (15, .cl (.int .i64 y13)), (16, .cl (.bool y14)), (17, .cl (.bool true)), (18, .cl (.bool false)), (19, .cl (.bool false)), (20, .cl (.int .i64 y15)), (21, .cl (.bool y16)), (22, .cl (.bool true))], [(0, ⟨.var [.cl (.sli .u8 y17)], false⟩)]⟩) (fun y1 y2 y3 => k (.exit 0) ⟨[(0, .cl (.fn (.yield l) [] [])), (1, .ptr 0 0 0), (5, .cl (.sli .u8 y1)), (6, .cl (.int .i64 y2)), (7, .cl (.bool false))], [(0, ⟨.var [.cl (.sli .u8 y3)], false⟩)]⟩) n v1
 | 0 => by intros; rfl
 | n + 1 => by
  intros
  rw [lpONums_0_step]
  have ih := lpONums_0_eq l k n
  simp only [lpONums_0, ih]
theorem LONums_0_ok (l : Nat) : ∀ (σ : St) (k : Ex -> St -> Option Out) (r : Out), LONums_0 l σ k = some r -> ∃ n, iterK n (codeK Tryd.prog (EONums l) 40 blpONums_0) (head (EONums l) 0) σ k = some r := by
 intro σ k r h
 unfold LONums_0 at h
 split at h
 ·replace h := cond_some h
  obtain ⟨hc, h⟩ := h
  simp only [Bool.and_eq_true, beq_prop, decide_eq_true_eq, Bool.not_eq_true'] at hc
  obtain ⟨⟨⟨⟨⟨⟨rfl, rfl⟩, rfl⟩, rfl⟩, rfl⟩, rfl⟩, rfl⟩ := hc
  rw [shut_eq] at h
  exact ⟨FUEL, (lpONums_0_eq l k FUEL _ ).trans h⟩
 ·cases h
theorem loopsONums (l : Nat) : ∀ c, Tryd.f154.body = some c -> LoopsOk Tryd.prog (EONums l) 40 c := by
 intro c hc
 cases hc
 exact ⟨⟨⟨trivial, ⟨trivial, trivial, jn_none rfl⟩, jn_none rfl⟩, ⟨trivial, ⟨⟨trivial, ⟨trivial, trivial, jn_none rfl⟩, jn_none rfl⟩, trivial, jn_none rfl⟩, jn_none rfl⟩, jn_none rfl⟩, lp_some rfl (LONums_0_ok l)⟩
noncomputable def gONums (l : Nat) (b : List Int) : Option Out :=
 cond (Nat.beq l l) (
 shut (lpONums_0 l
 (fun (y1 : Int) (y2 : Int) (y3 : List Int) (y4 : Int) (y5 : Int) (y6 : Int) (y7 : List Int) (y8 : Int) (y9 : Int) (y10 : Int) (y11 : Int) (y12 : Int) (y13 : Int) (y14 : Bool) (y15 : List Int) =>
  some (.ret [] [some ⟨.var [.cl (.sli .u8 y15)], false⟩]))
 (fun (y16 : Int) (y17 : Int) (y18 : List Int) (y19 : Int) (y20 : Int) (y21 : Int) (y22 : List Int) (y23 : Int) (y24 : Int) (y25 : Int) (y26 : Int) (y27 : Int) (y28 : Int) (y29 : Bool) (y30 : Int) (y31 : Bool) (y32 : List Int) =>
  some (.ret [] [some ⟨.var [.cl (.sli .u8 y32)], false⟩]))
 (fun (y33 : List Int) (y34 : Int) (y35 : List Int) =>
  some (.ret [] [some ⟨.var [.cl (.sli .u8 y35)], false⟩]))
 FUEL) b) none
theorem gONums_eq (l : Nat) (b : List Int) : bodyK Tryd.prog (EONums l) 40 false Tryd.f154 [.cl (.fn (.yield l) [] []), .ptr 0 0 0] [⟨.var [.cl (.sli .u8 b)], false⟩] = gONums l b := by kernel_rfl
end Go.Proofs.YtfkpjbbkdkcdcaaDoorA

namespace Go.Proofs.YtfkpjbbkdkcdcaaDoorA
noncomputable def EAlAll (l : Nat) : Env := {
 orc := fun g => cond (Nat.beq g 132) (SARoot) (fun _ _ => Tree.fail)
 pre := fun g => cond (Nat.beq g 132) (preARoot) (fun _ _ => true)
 byref := fun _ => []
 keep := fun g => cond (Nat.beq g 132) (true) (false)
 live := fun r => cond (Nat.beq r 1) ([0, 7, 8]) (cond (Nat.beq r 4) ([0, 3, 7, 8, 12, 13]) (cond (Nat.beq r 10) ([0, 41]) ([])))
 ren := fun _ => []
 glob := glVal
 nt := 63
 lp := fun _ => none
 rg := false
 yn := l
 yl := fun r => cond (Nat.beq r 6) (some 21) (cond (Nat.beq r 13) (some 9) (none))
}
theorem loopsAlAll (l : Nat) : ∀ c, Tryd.f131.body = some c -> LoopsOk Tryd.prog (EAlAll l) 40 c := by
 intro c hc
 cases hc
 exact ⟨⟨trivial, ⟨⟨trivial, ⟨⟨trivial, trivial, jn_none rfl⟩, ⟨⟨trivial, ⟨trivial, ⟨⟨trivial, ⟨⟨trivial, trivial, jn_none rfl⟩, ⟨⟨trivial, ⟨trivial, ⟨trivial, trivial, jn_none rfl⟩, jn_none rfl⟩, jn_none rfl⟩, trivial, jn_none rfl⟩, jn_none rfl⟩, jn_none rfl⟩, lp_none rfl⟩, jn_none rfl⟩, jn_none rfl⟩, trivial, jn_none rfl⟩, jn_none rfl⟩, jn_none rfl⟩, lp_none rfl⟩, jn_none rfl⟩, ⟨trivial, ⟨⟨trivial, ⟨⟨trivial, trivial, jn_none rfl⟩, ⟨⟨trivial, ⟨trivial, ⟨trivial, ⟨trivial, trivial, jn_none rfl⟩, jn_none rfl⟩, jn_none rfl⟩, jn_none rfl⟩, trivial, jn_none rfl⟩, jn_none rfl⟩, jn_none rfl⟩, lp_none rfl⟩, jn_none rfl⟩, jn_none rfl⟩
noncomputable def gAlAll (l : Nat)  : Option Out :=
 cond (Nat.beq l l) (
 yldO [.agg [.int .i64 1, .int .i64 1, .sli .u32 [2, 16, 840, 1, 101, 3, 4, 2, 1]]] (
  some (.ret [] []))
 (
  cond (Nat.beq l l) (
  yldO [.agg [.int .i64 2, .int .i64 1, .sli .u32 [2, 16, 840, 1, 101, 3, 4, 2, 2]]] (
   some (.ret [] []))
  (
   cond (Nat.beq l l) (
   yldO [.agg [.int .i64 3, .int .i64 1, .sli .u32 [2, 16, 840, 1, 101, 3, 4, 2, 3]]] (
    some (.ret [] []))
   (
    cond (Nat.beq l l) (
    yldO [.agg [.int .i64 4, .int .i64 1, .sli .u32 [2, 16, 840, 1, 101, 3, 4, 2, 8]]] (
     some (.ret [] []))
    (
     cond (Nat.beq l l) (
     yldO [.agg [.int .i64 5, .int .i64 1, .sli .u32 [2, 16, 840, 1, 101, 3, 4, 2, 10]]] (
      some (.ret [] []))
     (
      cond (Nat.beq l l) (
      yldO [.agg [.int .i64 6, .int .i64 1, .sli .u32 [2, 16, 840, 1, 101, 3, 4, 2, 11]]] (
       some (.ret [] []))
      (
       cond (Nat.beq l l) (
       yldO [.agg [.int .i64 7, .int .i64 1, .sli .u32 [2, 16, 840, 1, 101, 3, 4, 2, 12]]] (
        some (.ret [] []))
       (
        cond (Nat.beq l l) (
        yldO [.agg [.int .i64 11, .int .i64 2, .sli .u32 [2, 16, 840, 1, 101, 3, 4, 3, 17]]] (
         some (.ret [] []))
        (
         cond (Nat.beq l l) (
         yldO [.agg [.int .i64 12, .int .i64 2, .sli .u32 [2, 16, 840, 1, 101, 3, 4, 3, 18]]] (
          some (.ret [] []))
         (
          cond (Nat.beq l l) (
          yldO [.agg [.int .i64 13, .int .i64 2, .sli .u32 [2, 16, 840, 1, 101, 3, 4, 3, 19]]] (
           some (.ret [] []))
          (
           cond (Nat.beq l l) (
           yldO [.agg [.int .i64 33, .int .i64 2, .sli .u32 [2, 999, 1]]] (
            some (.ret [] []))
           (
            cond (Nat.beq l l) (
            yldO [.agg [.int .i64 34, .int .i64 2, .sli .u32 [2, 999, 2]]] (
             some (.ret [] []))
            (
             cond (Nat.beq l l) (
             yldO [.agg [.int .i64 41, .int .i64 2, .sli .u32 [1, 2, 840, 113549, 1, 9, 16, 3, 17]]] (
              some (.ret [] []))
             (
              cond (Nat.beq l l) (
              yldO [.agg [.int .i64 51, .int .i64 3, .sli .u32 [2, 16, 840, 1, 101, 3, 4, 4, 1]]] (
               some (.ret [] []))
              (
               cond (Nat.beq l l) (
               yldO [.agg [.int .i64 52, .int .i64 3, .sli .u32 [2, 16, 840, 1, 101, 3, 4, 4, 2]]] (
                some (.ret [] []))
               (
                cond (Nat.beq l l) (
                yldO [.agg [.int .i64 53, .int .i64 3, .sli .u32 [2, 16, 840, 1, 101, 3, 4, 4, 3]]] (
                 some (.ret [] []))
                (
                 cond (Nat.beq l l) (
                 yldO [.agg [.int .i64 61, .int .i64 4, .sli .u32 [1, 2, 840, 113549, 1, 9, 16, 3, 28]]] (
                  some (.ret [] []))
                 (
                  cond (Nat.beq l l) (
                  yldO [.agg [.int .i64 62, .int .i64 4, .sli .u32 [1, 2, 840, 113549, 1, 9, 16, 3, 29]]] (
                   some (.ret [] []))
                  (
                   cond (Nat.beq l l) (
                   yldO [.agg [.int .i64 63, .int .i64 4, .sli .u32 [1, 2, 840, 113549, 1, 9, 16, 3, 30]]] (
                    some (.ret [] []))
                   (
                    cond (Nat.beq l l) (
                    yldO [.agg [.int .i64 71, .int .i64 5, .sli .u32 [2, 16, 840, 1, 101, 3, 4, 1, 5]]] (
                     some (.ret [] []))
                    (
                     cond (Nat.beq l l) (
                     yldO [.agg [.int .i64 72, .int .i64 5, .sli .u32 [2, 16, 840, 1, 101, 3, 4, 1, 25]]] (
                      some (.ret [] []))
                     (
                      cond (Nat.beq l l) (
                      yldO [.agg [.int .i64 73, .int .i64 5, .sli .u32 [2, 16, 840, 1, 101, 3, 4, 1, 45]]] (
                       some (.ret [] []))
                      (
                       cond (Nat.beq l l) (
                       yldO [.agg [.int .i64 81, .int .i64 6, .sli .u32 [2, 16, 840, 1, 101, 3, 4, 1, 2]]] (
                        some (.ret [] []))
                       (
                        cond (Nat.beq l l) (
                        yldO [.agg [.int .i64 82, .int .i64 6, .sli .u32 [2, 16, 840, 1, 101, 3, 4, 1, 22]]] (
                         some (.ret [] []))
                        (
                         cond (Nat.beq l l) (
                         yldO [.agg [.int .i64 83, .int .i64 6, .sli .u32 [2, 16, 840, 1, 101, 3, 4, 1, 42]]] (
                          some (.ret [] []))
                         (
                          cond (Nat.beq l l) (
                          yldO [.agg [.int .i64 91, .int .i64 7, .sli .u32 [2, 16, 840, 1, 101, 3, 4, 1, 6]]] (
                           some (.ret [] []))
                          (
                           cond (Nat.beq l l) (
                           yldO [.agg [.int .i64 92, .int .i64 7, .sli .u32 [2, 16, 840, 1, 101, 3, 4, 1, 26]]] (
                            some (.ret [] []))
                           (
                            cond (Nat.beq l l) (
                            yldO [.agg [.int .i64 93, .int .i64 7, .sli .u32 [2, 16, 840, 1, 101, 3, 4, 1, 46]]] (
                             some (.ret [] []))
                            (
                             cond (Nat.beq l l) (
                             yldO [.agg [.int .i64 21, .int .i64 2, .sli .u32 [2, 16, 840, 1, 101, 3, 4, 3, 20]]] (
                              some (.ret [] []))
                             (
                              cond (Nat.beq l l) (
                              yldO [.agg [.int .i64 22, .int .i64 2, .sli .u32 [2, 16, 840, 1, 101, 3, 4, 3, 26]]] (
                               some (.ret [] []))
                              (
                               cond (Nat.beq l l) (
                               yldO [.agg [.int .i64 23, .int .i64 2, .sli .u32 [2, 16, 840, 1, 101, 3, 4, 3, 21]]] (
                                some (.ret [] []))
                               (
                                cond (Nat.beq l l) (
                                yldO [.agg [.int .i64 24, .int .i64 2, .sli .u32 [2, 16, 840, 1, 101, 3, 4, 3, 27]]] (
                                 some (.ret [] []))
                                (
                                 cond (Nat.beq l l) (
                                 yldO [.agg [.int .i64 25, .int .i64 2, .sli .u32 [2, 16, 840, 1, 101, 3, 4, 3, 22]]] (
                                  some (.ret [] []))
                                 (
                                  cond (Nat.beq l l) (
                                  yldO [.agg [.int .i64 26, .int .i64 2, .sli .u32 [2, 16, 840, 1, 101, 3, 4, 3, 28]]] (
                                   some (.ret [] []))
                                  (
                                   cond (Nat.beq l l) (
                                   yldO [.agg [.int .i64 27, .int .i64 2, .sli .u32 [2, 16, 840, 1, 101, 3, 4, 3, 23]]] (
                                    some (.ret [] []))
                                   (
                                    cond (Nat.beq l l) (
                                    yldO [.agg [.int .i64 28, .int .i64 2, .sli .u32 [2, 16, 840, 1, 101, 3, 4, 3, 29]]] (
                                     some (.ret [] []))
                                    (
                                     cond (Nat.beq l l) (
                                     yldO [.agg [.int .i64 29, .int .i64 2, .sli .u32 [2, 16, 840, 1, 101, 3, 4, 3, 24]]] (
                                      some (.ret [] []))
                                     (
                                      cond (Nat.beq l l) (
                                      yldO [.agg [.int .i64 30, .int .i64 2, .sli .u32 [2, 16, 840, 1, 101, 3, 4, 3, 30]]] (
                                       some (.ret [] []))
                                      (
                                       cond (Nat.beq l l) (
                                       yldO [.agg [.int .i64 31, .int .i64 2, .sli .u32 [2, 16, 840, 1, 101, 3, 4, 3, 25]]] (
                                        some (.ret [] []))
                                       (
                                        cond (Nat.beq l l) (
                                        yldO [.agg [.int .i64 32, .int .i64 2, .sli .u32 [2, 16, 840, 1, 101, 3, 4, 3, 31]]] (
                                         some (.ret [] []))
                                        (
                                         some (.ret [] []))) none)) none)) none)) none)) none)) none)) none)) none)) none)) none)) none)) none)) none)) none)) none)) none)) none)) none)) none)) none)) none)) none)) none)) none)) none)) none)) none)) none)) none)) none)) none)) none)) none)) none)) none)) none)) none)) none)) none)) none
theorem gAlAll_eq (l : Nat)  : bodyK Tryd.prog (EAlAll l) 40 false Tryd.f131 [.cl (.fn (.yield l) [] [])] [] = gAlAll l  := by kernel_rfl
end Go.Proofs.YtfkpjbbkdkcdcaaDoorA
