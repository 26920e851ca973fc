/-
 What the reading of apostille/apostillelaw06.ValueFit comes to, printed by a program. Conditions: none.
-/
import Derived.Test.YtfkpjbbkdkcdcaaDoorT1
set_option linter.unusedVariables false
set_option linter.unusedSimpArgs false
set_option maxRecDepth 100000
namespace Go.Proofs.YtfkpjbbkdkcdcaaDoorA
noncomputable def EARoot : Env := {
 orc := fun _ => fun _ _ => Tree.fail
 pre := fun _ => fun _ _ => true
 glob := glVal
 nt := 20
 xl := fun r => cond (Nat.beq r 0) (some [2]) (none)
}
theorem loopsARoot : ∀ c, Tryd.f132.body = some c -> LoopsOk Tryd.prog (EARoot) 40 c := by
 intro c hc
 cases hc
 exact noneL_ok _ (by kernel_rfl)
noncomputable def gARoot_0  : OO :=
 some (.ret [.ref 0 0 8 true 1] [some ⟨.ints .u32 [2, 16, 840, 1, 101, 3, 4, 2], false⟩])
theorem gARoot_0_eq  : bodyK Tryd.prog (EARoot) 40 true Tryd.f132 [.cl (.int .i64 0)] [] = gARoot_0  := by kernel_rfl
noncomputable def gARoot_1  : OO :=
 some (.ret [.ref 0 0 8 true 1] [some ⟨.ints .u32 [2, 16, 840, 1, 101, 3, 4, 3], false⟩])
theorem gARoot_1_eq  : bodyK Tryd.prog (EARoot) 40 true Tryd.f132 [.cl (.int .i64 1)] [] = gARoot_1  := by kernel_rfl
noncomputable def gARoot_2  : OO :=
 some (.ret [.ref 0 0 8 true 1] [some ⟨.ints .u32 [2, 16, 840, 1, 101, 3, 4, 4], false⟩])
theorem gARoot_2_eq  : bodyK Tryd.prog (EARoot) 40 true Tryd.f132 [.cl (.int .i64 2)] [] = gARoot_2  := by kernel_rfl
noncomputable def gARoot_3  : OO :=
 some (.ret [.ref 0 0 8 true 1] [some ⟨.ints .u32 [2, 16, 840, 1, 101, 3, 4, 1], false⟩])
theorem gARoot_3_eq  : bodyK Tryd.prog (EARoot) 40 true Tryd.f132 [.cl (.int .i64 3)] [] = gARoot_3  := by kernel_rfl
noncomputable def gARoot_4  : OO :=
 some (.ret [.ref 0 0 8 true 1] [some ⟨.ints .u32 [1, 2, 840, 113549, 1, 9, 16, 3], false⟩])
theorem gARoot_4_eq  : bodyK Tryd.prog (EARoot) 40 true Tryd.f132 [.cl (.int .i64 4)] [] = gARoot_4  := by kernel_rfl
noncomputable def gARoot_5  : OO :=
 some (.ret [.ref 0 0 2 true 1] [some ⟨.ints .u32 [2, 999], false⟩])
theorem gARoot_5_eq  : bodyK Tryd.prog (EARoot) 40 true Tryd.f132 [.cl (.int .i64 5)] [] = gARoot_5  := by kernel_rfl

noncomputable def EAAll : Env := {
 orc := fun _ => fun _ _ => Tree.fail
 pre := fun _ => fun _ _ => true
 glob := glVal
 nt := 1
 xl := fun r => cond (Nat.beq r 0) (some [0]) (none)
}
theorem loopsAAll : ∀ c, Tryd.f97.body = some c -> LoopsOk Tryd.prog (EAAll) 40 c := by
 intro c hc
 cases hc
 exact noneL_ok _ (by kernel_rfl)
noncomputable def gAAll  : OO :=
 some (.ret [.cl (.fn (.func 131) [] [])] [])
theorem gAAll_eq  : bodyK Tryd.prog (EAAll) 40 false Tryd.f97 [] [] = gAAll  := by kernel_rfl

noncomputable def rlAFound_2s (again : Int -> OO) (k0 : Int -> Int -> Int -> LI -> OO) (k1 : Int -> OO) (e1 : Int) (e2 : Int) (e3 : LI) (v1 : Int) : OO :=
 cond (decide (e1 = v1)) (
 k0 v1 e1 e2 e3)
 (
 again v1)
noncomputable def rlAFound_2 (k0 : Int -> Int -> Int -> LI -> OO) (k1 : Int -> OO) : List LC -> Int -> OO
 | [] => fun v1 => k1 v1
 | x :: r => rlAFound_2s (rlAFound_2 k0 k1 r) k0 k1 (cvInt ((cell1 (x.getD 0 .nili)).getD 0 .nili)) (cvInt ((cell1 (x.getD 0 .nili)).getD 1 .nili)) (cvSli ((cell1 (x.getD 0 .nili)).getD 2 .nili))
noncomputable def RAFound_2 : St -> List LC -> (KT) -> OO := fun σ xs k => match σ with
 | ⟨[(q1, .ptr q2 q3 q4), (q5, .ptr q6 q7 q8)], [(q9, ⟨.var [.cl (.int .i64 v1)], false⟩), (q10, ⟨.var [.cl (.int .i64 q11), .cl (.int .i64 q12), .nils], false⟩)]⟩ => cond (List.all xs okAlAll) (cond (Nat.beq q1 1 && Nat.beq q2 0 && Nat.beq q3 0 && Nat.beq q4 0 && Nat.beq q5 2 && Nat.beq q6 1 && Nat.beq q7 0 && Nat.beq q8 0 && Nat.beq q9 0 && Nat.beq q10 1 && decide (q11 = 0) && decide (q12 = 0)) (shut (rlAFound_2 (fun y1 y2 y3 y4 => k .ret ⟨[(1, .ptr 0 0 0), (2, .ptr 1 0 0)], [(0, ⟨.var [.cl (.int .i64 y1)], false⟩), (1, ⟨.var [.cl (.int .i64 y2), .cl (.int .i64 y3), .cl (.sli .u32 y4)], false⟩)]⟩) (fun y1 => k .normal ⟨[(1, .ptr 0 0 0), (2, .ptr 1 0 0)], [(0, ⟨.var [.cl (.int .i64 y1)], false⟩), (1, ⟨.var [.cl (.int .i64 0), .cl (.int .i64 0), .nils], false⟩)]⟩)) xs v1) none) none
 | _ => none
noncomputable def EAFound : Env := {
 orc := fun g => cond (Nat.beq g 97) SAAll (fun _ _ => Tree.fail)
 pre := fun g => cond (Nat.beq g 97) preAAll (cond (Nat.beq g 131) preAlAll (fun _ _ => true))
 live := fun r => cond (Nat.beq r 2) ([1, 2]) ([])
 glob := glVal
 nt := 12
 xl := fun r => cond (Nat.beq r 0) (some [2]) (none)
 lowr := fun r => cond (Nat.beq r 2) ([(65, 0), (66, 1)]) ([])
 sq := fun g => cond (Nat.beq g 131) QAlAll (fun _ _ => none)
 rf := fun r => cond (Nat.beq r 2) (some (RAFound_2)) (none)
}
noncomputable def arlAFound_2 : Code := Cd.fst (Cd.fst (Cd.snd (Cd.fst (Cd.snd (Tryd.f94.body.getD .skip)))))
noncomputable def brlAFound_2 : Code := Cd.snd (Cd.fst (Cd.snd (Cd.fst (Cd.snd (Tryd.f94.body.getD .skip)))))
theorem rlAFound_2_step (k : KT) (r : List LC) (e1 : Int) (e2 : Int) (e3 : LI) (v1 : Int) : rangeK (EAFound) 12 2 [5] (codeK Tryd.prog (EAFound) 40 arlAFound_2) (codeK Tryd.prog (EAFound) 40 brlAFound_2) ([.agg [.int .i64 e1, .int .i64 e2, .sli .u32 e3]] :: r) ⟨[(1, .ptr 0 0 0), (2, .ptr 1 0 0)], [(0, ⟨.var [.cl (.int .i64 v1)], false⟩), (1, ⟨.var [.cl (.int .i64 0), .cl (.int .i64 0), .nils], false⟩)]⟩ k = rlAFound_2s (fun v1 => rangeK (EAFound) 12 2 [5] (codeK Tryd.prog (EAFound) 40 arlAFound_2) (codeK Tryd.prog (EAFound) 40 brlAFound_2) r ⟨[(1, .ptr 0 0 0), (2, .ptr 1 0 0)], [(0, ⟨.var [.cl (.int .i64 v1)], false⟩), (1, ⟨.var [.cl (.int .i64 0), .cl (.int .i64 0), .nils], false⟩)]⟩ k) (fun y1 y2 y3 y4 => k .ret ⟨[(1, .ptr 0 0 0), (2, .ptr 1 0 0)], [(0, ⟨.var [.cl (.int .i64 y1)], false⟩), (1, ⟨.var [.cl (.int .i64 y2), .cl (.int .i64 y3), .cl (.sli .u32 y4)], false⟩)]⟩) (fun y1 => k .normal ⟨[(1, .ptr 0 0 0), (2, .ptr 1 0 0)], [(0, ⟨.var [.cl (.int .i64 y1)], false⟩), (1, ⟨.var [.cl (.int .i64 0), .cl (.int .i64 0), .nils], false⟩)]⟩) e1 e2 e3 v1 := by kernel_rfl
theorem rlAFound_2_eq (k : KT) : ∀ (xs : List LC), List.all xs okAlAll = true -> ∀ (v1 : Int), rangeK (EAFound) 12 2 [5] (codeK Tryd.prog (EAFound) 40 arlAFound_2) (codeK Tryd.prog (EAFound) 40 brlAFound_2) xs ⟨[(1, .ptr 0 0 0), (2, .ptr 1 0 0)], [(0, ⟨.var [.cl (.int .i64 v1)], false⟩), (1, ⟨.var [.cl (.int .i64 0), .cl (.int .i64 0), .nils], false⟩)]⟩ k = rlAFound_2 (fun y1 y2 y3 y4 => k .ret ⟨[(1, .ptr 0 0 0), (2, .ptr 1 0 0)], [(0, ⟨.var [.cl (.int .i64 y1)], false⟩), (1, ⟨.var [.cl (.int .i64 y2), .cl (.int .i64 y3), .cl (.sli .u32 y4)], false⟩)]⟩) (fun y1 => k .normal ⟨[(1, .ptr 0 0 0), (2, .ptr 1 0 0)], [(0, ⟨.var [.cl (.int .i64 y1)], false⟩), (1, ⟨.var [.cl (.int .i64 0), .cl (.int .i64 0), .nils], false⟩)]⟩) xs v1
 | [], _ => by intros; rfl
 | x :: r, h => by
  intros
  simp only [List.all_cons, Bool.and_eq_true] at h
  obtain ⟨e1, e2, e3, rfl⟩ := okAlAll_of h.1
  rw [rlAFound_2_step]
  have ih := rlAFound_2_eq k r h.2
  simp only [ih]
  rfl
theorem RAFound_2_ok : ∀ (σ : St) (xs : List LC) (k : KT) (r : Out), RAFound_2 σ xs k = some r -> rangeK (EAFound) 12 2 [5] (codeK Tryd.prog (EAFound) 40 arlAFound_2) (codeK Tryd.prog (EAFound) 40 brlAFound_2) xs σ k = some r := by
 intro σ xs k r h
 unfold RAFound_2 at h
 split at h
 ·replace h := cond_some h
  obtain ⟨hx, h⟩ := h
  replace h := cond_some h
  obtain ⟨hc, h⟩ := h
  simp only [Bool.and_eq_true, beq_prop, decide_eq_true_eq, Bool.not_eq_true'] at hc
  obtain ⟨⟨⟨⟨⟨⟨⟨⟨⟨⟨⟨rfl, rfl⟩, rfl⟩, rfl⟩, rfl⟩, rfl⟩, rfl⟩, rfl⟩, rfl⟩, rfl⟩, rfl⟩, rfl⟩ := hc
  rw [shut_eq] at h
  exact (rlAFound_2_eq k xs hx _ ).trans h
 ·cases h
theorem loopsAFound : ∀ c, Tryd.f94.body = some c -> LoopsOk Tryd.prog (EAFound) 40 c := by
 intro c hc
 cases hc
 exact ⟨trivial, ⟨⟨trivial, ⟨trivial, noneL_ok _ (by kernel_rfl), rfl, rfl, rf_some rfl (RAFound_2_ok)⟩, jn_none rfl⟩, ⟨trivial, trivial, jn_none rfl⟩, jn_none rfl⟩, jn_none rfl⟩
noncomputable def gAFound (g : Int) : OO :=
 cond (List.all algRows okAlAll) (
 shut (rlAFound_2
 (fun y1 y2 y3 y4 =>
 some (.ret [.cl (.agg [.int .i64 y2, .int .i64 y3, .sli .u32 y4])] []))
 (fun y5 =>
 some (.ret [.cl (.agg [.int .i64 0, .int .i64 0, .sli .u32 []])] []))) algRows g) none
theorem gAFound_eq (g : Int) : bodyK Tryd.prog (EAFound) 40 false Tryd.f94 [.cl (.int .i64 g)] [] = gAFound g := by kernel_rfl

noncomputable def EAGroup : Env := {
 orc := fun g => cond (Nat.beq g 94) SAFound (fun _ _ => Tree.fail)
 pre := fun g => cond (Nat.beq g 94) preAFound (fun _ _ => true)
 glob := glVal
 nt := 6
 xl := fun r => cond (Nat.beq r 0) (some [2]) (none)
}
theorem loopsAGroup : ∀ c, Tryd.f37.body = some c -> LoopsOk Tryd.prog (EAGroup) 40 c := by
 intro c hc
 cases hc
 exact noneL_ok _ (by kernel_rfl)
noncomputable def gAGroup (g : Int) : OO :=
 let r2 : Int := (algFound g).2.1
 some (.ret [.cl (.int .i64 r2)] [])
theorem gAGroup_eq (g : Int) : bodyK Tryd.prog (EAGroup) 40 false Tryd.f37 [.cl (.int .i64 g)] [] = gAGroup g := by kernel_rfl

noncomputable def EAId : Env := {
 orc := fun g => cond (Nat.beq g 94) SAFound (fun _ _ => Tree.fail)
 pre := fun g => cond (Nat.beq g 94) preAFound (fun _ _ => true)
 glob := glVal
 nt := 6
 xl := fun r => cond (Nat.beq r 0) (some [2]) (none)
}
theorem loopsAId : ∀ c, Tryd.f39.body = some c -> LoopsOk Tryd.prog (EAId) 40 c := by
 intro c hc
 cases hc
 exact noneL_ok _ (by kernel_rfl)
noncomputable def gAId (g : Int) : OO :=
 let r3 : LI := (algFound g).2.2
 some (.ret [.cl (.sli .u32 r3)] [])
theorem gAId_eq (g : Int) : bodyK Tryd.prog (EAId) 40 false Tryd.f39 [.cl (.int .i64 g)] [] = gAId g := by kernel_rfl

noncomputable def rlAOf_2s (again : LI -> OO) (k0 : LI -> Int -> OO) (k1 : LI -> OO) (e1 : Int) (e2 : Int) (e3 : LI) (v1 : LI) : OO :=
 cond (lenOk e3) (
 let r1 : Bool := listSame e3 v1
 cond (r1) (
 k0 v1 e1)
 (
 again v1)) none
noncomputable def rlAOf_2 (k0 : LI -> Int -> OO) (k1 : LI -> OO) : List LC -> LI -> OO
 | [] => fun v1 => k1 v1
 | x :: r => rlAOf_2s (rlAOf_2 k0 k1 r) k0 k1 (cvInt ((cell1 (x.getD 0 .nili)).getD 0 .nili)) (cvInt ((cell1 (x.getD 0 .nili)).getD 1 .nili)) (cvSli ((cell1 (x.getD 0 .nili)).getD 2 .nili))
noncomputable def RAOf_2 : St -> List LC -> (KT) -> OO := fun σ xs k => match σ with
 | ⟨[(q1, .ptr q2 q3 q4), (q5, .ptr q6 q7 q8)], [(q9, ⟨.var [.cl (.sli .u32 v1)], false⟩), (q10, ⟨.var [.cl (.int .i64 q11)], false⟩)]⟩ => cond (List.all xs okAlAll) (cond (Nat.beq q1 1 && Nat.beq q2 0 && Nat.beq q3 0 && Nat.beq q4 0 && Nat.beq q5 2 && Nat.beq q6 1 && Nat.beq q7 0 && Nat.beq q8 0 && Nat.beq q9 0 && Nat.beq q10 1 && decide (q11 = 0)) (shut (rlAOf_2 (fun y1 y2 => k .ret ⟨[(1, .ptr 0 0 0), (2, .ptr 1 0 0)], [(0, ⟨.var [.cl (.sli .u32 y1)], false⟩), (1, ⟨.var [.cl (.int .i64 y2)], false⟩)]⟩) (fun y1 => k .normal ⟨[(1, .ptr 0 0 0), (2, .ptr 1 0 0)], [(0, ⟨.var [.cl (.sli .u32 y1)], false⟩), (1, ⟨.var [.cl (.int .i64 0)], false⟩)]⟩)) xs v1) none) none
 | _ => none
noncomputable def EAOf : Env := {
 orc := fun g => cond (Nat.beq g 97) SAAll (cond (Nat.beq g 98) SOSame (fun _ _ => Tree.fail))
 pre := fun g => cond (Nat.beq g 97) preAAll (cond (Nat.beq g 98) preOSame (cond (Nat.beq g 131) preAlAll (fun _ _ => true)))
 live := fun r => cond (Nat.beq r 2) ([1, 2]) ([])
 glob := glVal
 nt := 12
 xl := fun r => cond (Nat.beq r 0) (some [2]) (none)
 lowr := fun r => cond (Nat.beq r 2) ([(65, 0), (66, 1)]) ([])
 sq := fun g => cond (Nat.beq g 131) QAlAll (fun _ _ => none)
 rf := fun r => cond (Nat.beq r 2) (some (RAOf_2)) (none)
}
noncomputable def arlAOf_2 : Code := Cd.fst (Cd.fst (Cd.snd (Cd.fst (Cd.snd (Tryd.f41.body.getD .skip)))))
noncomputable def brlAOf_2 : Code := Cd.snd (Cd.fst (Cd.snd (Cd.fst (Cd.snd (Tryd.f41.body.getD .skip)))))
theorem rlAOf_2_step (k : KT) (r : List LC) (e1 : Int) (e2 : Int) (e3 : LI) (v1 : LI) : rangeK (EAOf) 12 2 [5] (codeK Tryd.prog (EAOf) 40 arlAOf_2) (codeK Tryd.prog (EAOf) 40 brlAOf_2) ([.agg [.int .i64 e1, .int .i64 e2, .sli .u32 e3]] :: r) ⟨[(1, .ptr 0 0 0), (2, .ptr 1 0 0)], [(0, ⟨.var [.cl (.sli .u32 v1)], false⟩), (1, ⟨.var [.cl (.int .i64 0)], false⟩)]⟩ k = rlAOf_2s (fun v1 => rangeK (EAOf) 12 2 [5] (codeK Tryd.prog (EAOf) 40 arlAOf_2) (codeK Tryd.prog (EAOf) 40 brlAOf_2) r ⟨[(1, .ptr 0 0 0), (2, .ptr 1 0 0)], [(0, ⟨.var [.cl (.sli .u32 v1)], false⟩), (1, ⟨.var [.cl (.int .i64 0)], false⟩)]⟩ k) (fun y1 y2 => k .ret ⟨[(1, .ptr 0 0 0), (2, .ptr 1 0 0)], [(0, ⟨.var [.cl (.sli .u32 y1)], false⟩), (1, ⟨.var [.cl (.int .i64 y2)], false⟩)]⟩) (fun y1 => k .normal ⟨[(1, .ptr 0 0 0), (2, .ptr 1 0 0)], [(0, ⟨.var [.cl (.sli .u32 y1)], false⟩), (1, ⟨.var [.cl (.int .i64 0)], false⟩)]⟩) e1 e2 e3 v1 := by kernel_rfl
theorem rlAOf_2_eq (k : KT) : ∀ (xs : List LC), List.all xs okAlAll = true -> ∀ (v1 : LI), rangeK (EAOf) 12 2 [5] (codeK Tryd.prog (EAOf) 40 arlAOf_2) (codeK Tryd.prog (EAOf) 40 brlAOf_2) xs ⟨[(1, .ptr 0 0 0), (2, .ptr 1 0 0)], [(0, ⟨.var [.cl (.sli .u32 v1)], false⟩), (1, ⟨.var [.cl (.int .i64 0)], false⟩)]⟩ k = rlAOf_2 (fun y1 y2 => k .ret ⟨[(1, .ptr 0 0 0), (2, .ptr 1 0 0)], [(0, ⟨.var [.cl (.sli .u32 y1)], false⟩), (1, ⟨.var [.cl (.int .i64 y2)], false⟩)]⟩) (fun y1 => k .normal ⟨[(1, .ptr 0 0 0), (2, .ptr 1 0 0)], [(0, ⟨.var [.cl (.sli .u32 y1)], false⟩), (1, ⟨.var [.cl (.int .i64 0)], false⟩)]⟩) xs v1
 | [], _ => by intros; rfl
 | x :: r, h => by
  intros
  simp only [List.all_cons, Bool.and_eq_true] at h
  obtain ⟨e1, e2, e3, rfl⟩ := okAlAll_of h.1
  rw [rlAOf_2_step]
  have ih := rlAOf_2_eq k r h.2
  simp only [ih]
  rfl
theorem RAOf_2_ok : ∀ (σ : St) (xs : List LC) (k : KT) (r : Out), RAOf_2 σ xs k = some r -> rangeK (EAOf) 12 2 [5] (codeK Tryd.prog (EAOf) 40 arlAOf_2) (codeK Tryd.prog (EAOf) 40 brlAOf_2) xs σ k = some r := by
 intro σ xs k r h
 unfold RAOf_2 at h
 split at h
 ·replace h := cond_some h
  obtain ⟨hx, h⟩ := h
  replace h := cond_some h
  obtain ⟨hc, h⟩ := h
  simp only [Bool.and_eq_true, beq_prop, decide_eq_true_eq, Bool.not_eq_true'] at hc
  obtain ⟨⟨⟨⟨⟨⟨⟨⟨⟨⟨rfl, rfl⟩, rfl⟩, rfl⟩, rfl⟩, rfl⟩, rfl⟩, rfl⟩, rfl⟩, rfl⟩, rfl⟩ := hc
  rw [shut_eq] at h
  exact (rlAOf_2_eq k xs hx _ ).trans h
 ·cases h
theorem loopsAOf : ∀ c, Tryd.f41.body = some c -> LoopsOk Tryd.prog (EAOf) 40 c := by
 intro c hc
 cases hc
 exact ⟨trivial, ⟨⟨trivial, ⟨trivial, noneL_ok _ (by kernel_rfl), rfl, rfl, rf_some rfl (RAOf_2_ok)⟩, jn_none rfl⟩, ⟨trivial, trivial, jn_none rfl⟩, jn_none rfl⟩, jn_none rfl⟩
noncomputable def gAOf (o : LI) : OO :=
 cond (List.all algRows okAlAll) (
 shut (rlAOf_2
 (fun y1 y2 =>
 some (.ret [.cl (.int .i64 y2)] []))
 (fun y3 =>
 some (.ret [.cl (.int .i64 0)] []))) algRows o) none
theorem gAOf_eq (o : LI) : bodyK Tryd.prog (EAOf) 40 false Tryd.f41 [.cl (.sli .u32 o)] [] = gAOf o := by kernel_rfl

noncomputable def EAName : Env := {
 orc := fun _ => fun _ _ => Tree.fail
 pre := fun _ => fun _ _ => true
 glob := glVal
 nt := 49
 xl := fun r => cond (Nat.beq r 0) (some [2]) (none)
}
theorem loopsAName : ∀ c, Tryd.f43.body = some c -> LoopsOk Tryd.prog (EAName) 40 c := by
 intro c hc
 cases hc
 exact noneL_ok _ (by kernel_rfl)
noncomputable def gAName (g : Int) : OO :=
 cond (decide ((1 : Int) <= g)) (
 cond (decide (g <= 3)) (
 let x1 : Int := IntKind.u32.wrap g
 some (.ret [.cl (.sli .u32 [1, 2, 840, 113549, 1, 7, x1])] []))
 (
 cond (decide ((6 : Int) <= g)) (
 cond (decide (g <= 9)) (
 let x2 : Int := IntKind.i64.wrap ((3 : Int) + g)
 let x3 : Int := IntKind.i64.wrap (x2 - 6)
 let x4 : Int := IntKind.u32.wrap x3
 some (.ret [.cl (.sli .u32 [1, 2, 840, 113549, 1, 9, x4])] []))
 (
 cond (decide (g = 4)) (
 some (.ret [.cl (.sli .u32 [1, 2, 840, 113549, 1, 9, 16, 1, 23])] []))
 (
 cond (decide (g = 5)) (
 some (.ret [.cl (.sli .u32 [1, 2, 840, 113549, 1, 9, 16, 1, 4])] []))
 (
 cond (decide (g = 10)) (
 some (.ret [.cl (.sli .u32 [1, 2, 840, 113549, 1, 9, 16, 13, 3])] []))
 (
 some (.ret [.cl (.sli .u32 [])] []))))))
 (
 cond (decide (g = 4)) (
 some (.ret [.cl (.sli .u32 [1, 2, 840, 113549, 1, 9, 16, 1, 23])] []))
 (
 cond (decide (g = 5)) (
 some (.ret [.cl (.sli .u32 [1, 2, 840, 113549, 1, 9, 16, 1, 4])] []))
 (
 cond (decide (g = 10)) (
 some (.ret [.cl (.sli .u32 [1, 2, 840, 113549, 1, 9, 16, 13, 3])] []))
 (
 some (.ret [.cl (.sli .u32 [])] [])))))))
 (
 cond (decide ((6 : Int) <= g)) (
 cond (decide (g <= 9)) (
 let x5 : Int := IntKind.i64.wrap ((3 : Int) + g)
 let x6 : Int := IntKind.i64.wrap (x5 - 6)
 let x7 : Int := IntKind.u32.wrap x6
 some (.ret [.cl (.sli .u32 [1, 2, 840, 113549, 1, 9, x7])] []))
 (
 cond (decide (g = 4)) (
 some (.ret [.cl (.sli .u32 [1, 2, 840, 113549, 1, 9, 16, 1, 23])] []))
 (
 cond (decide (g = 5)) (
 some (.ret [.cl (.sli .u32 [1, 2, 840, 113549, 1, 9, 16, 1, 4])] []))
 (
 cond (decide (g = 10)) (
 some (.ret [.cl (.sli .u32 [1, 2, 840, 113549, 1, 9, 16, 13, 3])] []))
 (
 some (.ret [.cl (.sli .u32 [])] []))))))
 (
 cond (decide (g = 4)) (
 some (.ret [.cl (.sli .u32 [1, 2, 840, 113549, 1, 9, 16, 1, 23])] []))
 (
 cond (decide (g = 5)) (
 some (.ret [.cl (.sli .u32 [1, 2, 840, 113549, 1, 9, 16, 1, 4])] []))
 (
 cond (decide (g = 10)) (
 some (.ret [.cl (.sli .u32 [1, 2, 840, 113549, 1, 9, 16, 13, 3])] []))
 (
 some (.ret [.cl (.sli .u32 [])] []))))))
theorem gAName_eq (g : Int) : bodyK Tryd.prog (EAName) 40 false Tryd.f43 [.cl (.int .i64 g)] [] = gAName g := by kernel_rfl

noncomputable def EAUsed : Env := {
 orc := fun _ => fun _ _ => Tree.fail
 pre := fun _ => fun _ _ => true
 glob := glVal
 nt := 8
 xl := fun r => cond (Nat.beq r 0) (some [2]) (none)
}
theorem loopsAUsed : ∀ c, Tryd.f102.body = some c -> LoopsOk Tryd.prog (EAUsed) 40 c := by
 intro c hc
 cases hc
 exact noneL_ok _ (by kernel_rfl)
noncomputable def gAUsed (g : Int) : OO :=
 cond (decide (g = 6)) (
 some (.ret [.cl (.int .i64 16)] []))
 (
 cond (decide (g = 7)) (
 some (.ret [.cl (.int .i64 12)] []))
 (
 some (.ret [.cl (.int .i64 0)] [])))
theorem gAUsed_eq (g : Int) : bodyK Tryd.prog (EAUsed) 40 false Tryd.f102 [.cl (.int .i64 g)] [] = gAUsed g := by kernel_rfl

noncomputable def EANode : Env := {
 orc := fun g => cond (Nat.beq g 14) SVInt (cond (Nat.beq g 53) SVSeq (cond (Nat.beq g 59) SVId (cond (Nat.beq g 64) SVBytes (cond (Nat.beq g 94) SAFound (cond (Nat.beq g 102) SAUsed (fun _ _ => Tree.fail))))))
 pre := fun g => cond (Nat.beq g 14) preVInt (cond (Nat.beq g 53) preVSeq (cond (Nat.beq g 59) preVId (cond (Nat.beq g 64) preVBytes (cond (Nat.beq g 94) preAFound (cond (Nat.beq g 102) preAUsed (fun _ _ => true))))))
 glob := glVal
 nt := 52
 xl := fun r => cond (Nat.beq r 0) (some [4, 5]) (none)
}
theorem loopsANode : ∀ c, Tryd.f55.body = some c -> LoopsOk Tryd.prog (EANode) 40 c := by
 intro c hc
 cases hc
 exact noneL_ok _ (by kernel_rfl)
noncomputable def gANode (g : Int) (b : LI) : OO :=
 let r2 : Int := (algFound g).2.1
 let r3 : LI := (algFound g).2.2
 cond (decide (r2 = 0)) (
 some (.ret [.cl (.agg [.int .i64 0, .sli .u8 [], .slg 3 []]), .cl (.int .i64 9)] []))
 (
 let r4 : Int := algUsed r2
 cond (!decide (((b.length : Nat) : Int) = r4)) (
 some (.ret [.cl (.agg [.int .i64 0, .sli .u8 [], .slg 3 []]), .cl (.int .i64 14)] []))
 (
 cond (idOk r3) (
 let r5 : Int := (vMade 6 (oidBytes r3)).1
 let r6 : LI := (vMade 6 (oidBytes r3)).2.1
 let r7 : LC := noKids
 cond (decide (r2 = 6)) (
 cond (lenOk b) (
 let r9 : LC := noKids
 cond (lenOkC ([.agg [.int .i64 r5, .sli .u8 r6, .slg 3 r7], .agg [.int .i64 4, .sli .u8 b, .slg 3 r9]])) (
 let r10 : LI := noInts
 some (.ret [.cl (.agg [.int .i64 48, .sli .u8 r10, .slg 3 ([.agg [.int .i64 r5, .sli .u8 r6, .slg 3 r7], .agg [.int .i64 4, .sli .u8 b, .slg 3 r9]])]), .cl (.int .i64 0)] [])) none) none)
 (
 cond (decide (r2 = 7)) (
 cond (lenOk b) (
 let r11 : LC := noKids
 cond (stI64 16) (
 let r12 : LI := vInt 16
 let r13 : LC := noKids
 cond (lenOkC ([.agg [.int .i64 4, .sli .u8 b, .slg 3 r11], .agg [.int .i64 2, .sli .u8 r12, .slg 3 r13]])) (
 let r14 : LI := noInts
 cond (lenOkC ([.agg [.int .i64 r5, .sli .u8 r6, .slg 3 r7], .agg [.int .i64 48, .sli .u8 r14, .slg 3 ([.agg [.int .i64 4, .sli .u8 b, .slg 3 r11], .agg [.int .i64 2, .sli .u8 r12, .slg 3 r13]])]])) (
 let r15 : LI := noInts
 some (.ret [.cl (.agg [.int .i64 48, .sli .u8 r15, .slg 3 ([.agg [.int .i64 r5, .sli .u8 r6, .slg 3 r7], .agg [.int .i64 48, .sli .u8 r14, .slg 3 ([.agg [.int .i64 4, .sli .u8 b, .slg 3 r11], .agg [.int .i64 2, .sli .u8 r12, .slg 3 r13]])]])]), .cl (.int .i64 0)] [])) none) none) none) none)
 (
 cond (lenOkC ([.agg [.int .i64 r5, .sli .u8 r6, .slg 3 r7]])) (
 let r16 : LI := noInts
 some (.ret [.cl (.agg [.int .i64 48, .sli .u8 r16, .slg 3 ([.agg [.int .i64 r5, .sli .u8 r6, .slg 3 r7]])]), .cl (.int .i64 0)] [])) none))) none))
theorem gANode_eq (g : Int) (b : LI) : bodyK Tryd.prog (EANode) 40 false Tryd.f55 [.cl (.int .i64 g), .cl (.sli .u8 b)] [] = gANode g b := by kernel_rfl

noncomputable def EATail : Env := {
 orc := fun g => cond (Nat.beq g 18) SVIntOf (cond (Nat.beq g 20) SVBytesOf (cond (Nat.beq g 51) SVKids (cond (Nat.beq g 102) SAUsed (fun _ _ => Tree.fail))))
 pre := fun g => cond (Nat.beq g 18) preVIntOf (cond (Nat.beq g 20) preVBytesOf (cond (Nat.beq g 51) preVKids (cond (Nat.beq g 102) preAUsed (fun _ _ => true))))
 glob := glVal
 nt := 69
 xl := fun r => cond (Nat.beq r 0) (some [4, 5]) (none)
}
theorem loopsATail : ∀ c, Tryd.f103.body = some c -> LoopsOk Tryd.prog (EATail) 40 c := by
 intro c hc
 cases hc
 exact noneL_ok _ (by kernel_rfl)
noncomputable def gATail (g : Int) (l : LC) : OO :=
 let r1 : Int := algUsed g
 cond (decide (r1 = 0)) (
 some (.ret [.cl (.sli .u8 []), .cl (.bool (decide (((l.length : Nat) : Int) = 0)))] []))
 (
 cond (!decide (((l.length : Nat) : Int) = 1)) (
 some (.ret [.cl (.sli .u8 []), .cl (.bool false)] []))
 (
 cond (decide ((0 : Int) < ((l.length : Nat) : Int))) (
 Option.bind (l[0]?) fun (e2 : CV) =>
 let e3 : CV := (cell1 e2).headD .nili
 let e4 : CV := (cell1 e2).tail.headD .nili
 let e5 : CV := (cell1 e2).tail.tail.headD .nili
 cond (okInt .i64 e3 && (okSli .u8 e4 && (okSlg 3 e5 && true))) (
 let i6 : Int := cvInt e3
 let l7 : LI := cvSli e4
 let l8 : LC := cvSlg e5
 cond (decide (g = 7)) (
 cond (lenOkC l8) (
 let r9 : LC := (vKids 48 i6 l7 l8).1
 let r10 : Int := (vKids 48 i6 l7 l8).2
 cond (!decide (r10 = 0)) (
 some (.ret [.cl (.sli .u8 []), .cl (.bool false)] []))
 (
 cond (!decide (((r9.length : Nat) : Int) = 2)) (
 some (.ret [.cl (.sli .u8 []), .cl (.bool false)] []))
 (
 cond (decide ((1 : Int) < ((r9.length : Nat) : Int))) (
 Option.bind (r9[1]?) fun (e11 : CV) =>
 let e12 : CV := (cell1 e11).headD .nili
 let e13 : CV := (cell1 e11).tail.headD .nili
 let e14 : CV := (cell1 e11).tail.tail.headD .nili
 cond (okInt .i64 e12 && (okSli .u8 e13 && (okSlg 3 e14 && true))) (
 let i15 : Int := cvInt e12
 let l16 : LI := cvSli e13
 let l17 : LC := cvSlg e14
 cond (isS [.int .i64 i15, .sli .u8 l16, .slg 3 l17]) (
 let r18 : Int := (vIntOf i15 l16 l17).1
 let r19 : Int := (vIntOf i15 l16 l17).2
 cond (!decide (r19 = 0)) (
 some (.ret [.cl (.sli .u8 []), .cl (.bool false)] []))
 (
 cond (!decide (r18 = 16)) (
 some (.ret [.cl (.sli .u8 []), .cl (.bool false)] []))
 (
 cond (decide ((0 : Int) < ((r9.length : Nat) : Int))) (
 Option.bind (r9[0]?) fun (e20 : CV) =>
 let e21 : CV := (cell1 e20).headD .nili
 let e22 : CV := (cell1 e20).tail.headD .nili
 let e23 : CV := (cell1 e20).tail.tail.headD .nili
 cond (okInt .i64 e21 && (okSli .u8 e22 && (okSlg 3 e23 && true))) (
 let i24 : Int := cvInt e21
 let l25 : LI := cvSli e22
 let l26 : LC := cvSlg e23
 cond (isS [.int .i64 i24, .sli .u8 l25, .slg 3 l26]) (
 let r27 : LI := (vBytesOf i24 l25 l26).1
 let r28 : Int := (vBytesOf i24 l25 l26).2
 cond (decide (r28 = 0)) (
 let r29 : Int := algUsed g
 some (.ret [.cl (.sli .u8 r27), .cl (.bool (decide (((r27.length : Nat) : Int) = r29)))] []))
 (
 some (.ret [.cl (.sli .u8 r27), .cl (.bool false)] []))) none) none) none))) none) none) none))) none)
 (
 cond (isS [.int .i64 i6, .sli .u8 l7, .slg 3 l8]) (
 let r30 : LI := (vBytesOf i6 l7 l8).1
 let r31 : Int := (vBytesOf i6 l7 l8).2
 cond (decide (r31 = 0)) (
 let r32 : Int := algUsed g
 some (.ret [.cl (.sli .u8 r30), .cl (.bool (decide (((r30.length : Nat) : Int) = r32)))] []))
 (
 some (.ret [.cl (.sli .u8 r30), .cl (.bool false)] []))) none)) none) none))
theorem gATail_eq (g : Int) (l : LC) : bodyK Tryd.prog (EATail) 40 false Tryd.f103 [.cl (.int .i64 g), .cl (.slg 3 l)] [] = gATail g l := by kernel_rfl

noncomputable def EARead : Env := {
 orc := fun g => cond (Nat.beq g 24) SVIdOf (cond (Nat.beq g 37) SAGroup (cond (Nat.beq g 41) SAOf (cond (Nat.beq g 51) SVKids (cond (Nat.beq g 78) SSClone (cond (Nat.beq g 103) SATail (fun _ _ => Tree.fail))))))
 pre := fun g => cond (Nat.beq g 24) preVIdOf (cond (Nat.beq g 37) preAGroup (cond (Nat.beq g 41) preAOf (cond (Nat.beq g 51) preVKids (cond (Nat.beq g 78) preSClone (cond (Nat.beq g 103) preATail (fun _ _ => true))))))
 glob := glVal
 nt := 47
 xl := fun r => cond (Nat.beq r 0) (some [2, 3, 4]) (none)
}
theorem loopsARead : ∀ c, Tryd.f56.body = some c -> LoopsOk Tryd.prog (EARead) 40 c := by
 intro c hc
 cases hc
 exact noneL_ok _ (by kernel_rfl)
noncomputable def gARead (t : Int) (b : LI) (k : LC) : OO :=
 cond (lenOkC k) (
 let r1 : LC := (vKids 48 t b k).1
 let r2 : Int := (vKids 48 t b k).2
 cond (!decide (r2 = 0)) (
 some (.ret [.cl (.int .i64 0), .cl (.sli .u8 []), .cl (.int .i64 1)] []))
 (
 cond (decide (((r1.length : Nat) : Int) = 0)) (
 some (.ret [.cl (.int .i64 0), .cl (.sli .u8 []), .cl (.int .i64 1)] []))
 (
 cond (decide ((0 : Int) < ((r1.length : Nat) : Int))) (
 Option.bind (r1[0]?) fun (e3 : CV) =>
 let e4 : CV := (cell1 e3).headD .nili
 let e5 : CV := (cell1 e3).tail.headD .nili
 let e6 : CV := (cell1 e3).tail.tail.headD .nili
 cond (okInt .i64 e4 && (okSli .u8 e5 && (okSlg 3 e6 && true))) (
 let i7 : Int := cvInt e4
 let l8 : LI := cvSli e5
 let l9 : LC := cvSlg e6
 cond (isS [.int .i64 i7, .sli .u8 l8, .slg 3 l9]) (
 let r10 : LI := (vIdOf i7 l8 l9).1
 let r11 : Int := (vIdOf i7 l8 l9).2
 cond (!decide (r11 = 0)) (
 some (.ret [.cl (.int .i64 0), .cl (.sli .u8 []), .cl (.int .i64 1)] []))
 (
 let r12 : Int := algOf r10
 cond (decide (r12 = 0)) (
 some (.ret [.cl (.int .i64 0), .cl (.sli .u8 []), .cl (.int .i64 9)] []))
 (
 let r13 : Int := (algFound r12).2.1
 cond (decide ((1 : Int) <= ((r1.length : Nat) : Int))) (
 let l14 : LC := List.drop 1 r1
 cond (tailOk l14) (
 let r15 : LI := (algTail r13 l14).1
 let r16 : Bool := (algTail r13 l14).2
 cond (!r16) (
 some (.ret [.cl (.int .i64 0), .cl (.sli .u8 []), .cl (.int .i64 1)] []))
 (
 cond (lenOk r15) (
 some (.ret [.cl (.int .i64 r12), .cl (.sli .u8 r15), .cl (.int .i64 0)] [])) none)) none) none))) none) none) none))) none
theorem gARead_eq (t : Int) (b : LI) (k : LC) : bodyK Tryd.prog (EARead) 40 false Tryd.f56 [.cl (.agg [.int .i64 t, .sli .u8 b, .slg 3 k])] [] = gARead t b k := by kernel_rfl

noncomputable def EAAwake : Env := {
 orc := fun g => cond (Nat.beq g 29) SR2Same (cond (Nat.beq g 39) SAId (cond (Nat.beq g 41) SAOf (cond (Nat.beq g 55) SANode (fun _ _ => Tree.fail))))
 pre := fun g => cond (Nat.beq g 29) preR2Same (cond (Nat.beq g 39) preAId (cond (Nat.beq g 41) preAOf (cond (Nat.beq g 55) preANode (fun _ _ => true))))
 glob := glVal
 nt := 20
 xl := fun r => cond (Nat.beq r 0) (some [0]) (none)
}
theorem loopsAAwake : ∀ c, Tryd.f30.body = some c -> LoopsOk Tryd.prog (EAAwake) 40 c := by
 intro c hc
 cases hc
 exact noneL_ok _ (by kernel_rfl)
noncomputable def gAAwake  : OO :=
 cond (lenOk [0, 0, 0, 0, 0, 0, 0, 0, 0, 0, 0]) (
 let r4 : Int := (algNode 91 [0, 0, 0, 0, 0, 0, 0, 0, 0, 0, 0]).2.2
 let r5 : LI := (algFound 11).2.2
 cond (lenOk r5) (
 let r6 : Bool := listSame r5 [2, 16, 840, 1, 101, 3, 4, 3, 17]
 cond (r6) (
 let r7 : Int := algOf [2, 5]
 cond (decide (r7 = 0)) (
 some (.ret [.cl (.bool (decide (r4 = 14)))] []))
 (
 some (.ret [.cl (.bool false)] [])))
 (
 some (.ret [.cl (.bool false)] []))) none) none
theorem gAAwake_eq  : bodyK Tryd.prog (EAAwake) 40 false Tryd.f30 [] [] = gAAwake  := by kernel_rfl

noncomputable def jnALBack_8 (k0 : OO) (k1 : Bool -> OO) (v1 : Int) (v2 : LI) (v3 : Int) (v4 : LI) (v5 : LC) : OO :=
 cond (lenOk v2) (
 let r16 : Int := (algNode v1 v2).1
 let r17 : LI := noInts
 let r18 : LC := (algNode v1 v2).2.1
 let r19 : Int := (algNode v1 v2).2.2
 cond (decide (r19 = 0)) (
 cond (isS [.int .i64 r16, .sli .u8 r17, .slg 3 r18]) (
 let r20 : Int := (algRead r16 r17 r18).1
 let r21 : LI := (algRead r16 r17 r18).2.1
 let r22 : Int := (algRead r16 r17 r18).2.2
 cond (!decide (r22 = 0)) (
 k0)
 (
 cond (!decide (r20 = v1)) (
 k0)
 (
 cond (lenOk r21) (
 let r23 : Bool := listSame r21 v2
 cond (!r23) (
 k0)
 (
 cond (isS [.int .i64 r16, .sli .u8 r17, .slg 3 r18]) (
 let r24 : Bool := ndFit [.int .i64 r16, .sli .u8 r17, .slg 3 r18]
 cond (!r24) (
 k0)
 (
 cond (isS [.int .i64 v3, .sli .u8 v4, .slg 3 v5]) (
 let r25 : Int := (algRead v3 v4 v5).1
 let r26 : LI := (algRead v3 v4 v5).2.1
 let r27 : Int := (algRead v3 v4 v5).2.2
 cond (!decide (r27 = 0)) (
 cond (decide (r25 = 0)) (
 cond (decide (((r26.length : Nat) : Int) = 0)) (
 let r28 : Bool := true
 k1 r28)
 (
 k0))
 (
 k0))
 (
 cond (lenOk r26) (
 let r29 : Int := (algNode r25 r26).1
 let r30 : LI := noInts
 let r31 : LC := (algNode r25 r26).2.1
 let r32 : Int := (algNode r25 r26).2.2
 cond (decide (r32 = 0)) (
 cond (isN [.int .i64 r29, .sli .u8 r30, .slg 3 r31] && isN [.int .i64 v3, .sli .u8 v4, .slg 3 v5]) (
 let r33 : Bool := ndSame [.int .i64 r29, .sli .u8 r30, .slg 3 r31] [.int .i64 v3, .sli .u8 v4, .slg 3 v5]
 cond (r33) (
 let r34 : Bool := true
 k1 r34)
 (
 k0)) none)
 (
 k0)) none)) none)) none)) none))) none)
 (
 cond (isS [.int .i64 v3, .sli .u8 v4, .slg 3 v5]) (
 let r35 : Int := (algRead v3 v4 v5).1
 let r36 : LI := (algRead v3 v4 v5).2.1
 let r37 : Int := (algRead v3 v4 v5).2.2
 cond (!decide (r37 = 0)) (
 cond (decide (r35 = 0)) (
 cond (decide (((r36.length : Nat) : Int) = 0)) (
 let r38 : Bool := true
 k1 r38)
 (
 k0))
 (
 k0))
 (
 cond (lenOk r36) (
 let r39 : Int := (algNode r35 r36).1
 let r40 : LI := noInts
 let r41 : LC := (algNode r35 r36).2.1
 let r42 : Int := (algNode r35 r36).2.2
 cond (decide (r42 = 0)) (
 cond (isN [.int .i64 r39, .sli .u8 r40, .slg 3 r41] && isN [.int .i64 v3, .sli .u8 v4, .slg 3 v5]) (
 let r43 : Bool := ndSame [.int .i64 r39, .sli .u8 r40, .slg 3 r41] [.int .i64 v3, .sli .u8 v4, .slg 3 v5]
 cond (r43) (
 let r44 : Bool := true
 k1 r44)
 (
 k0)) none)
 (
 k0)) none)) none)) none
noncomputable def jnALBack_6 (k0 : OO) (k1 : Bool -> OO) (v1 v2 : Int) (v3 : LI) (v4 : Int) (v5 : LI) (v6 : LC) : OO :=
 let r11 : LI := algName v1
 cond (decide ((0 : Int) < ((r11.length : Nat) : Int))) (
 let r12 : LI := algName v2
 cond (decide ((0 : Int) < ((r12.length : Nat) : Int))) (
 let r13 : LI := algName v1
 let r14 : LI := algName v2
 cond (lenOk r13) (
 let r15 : Bool := listSame r13 r14
 cond (!(r15 == (decide (v1 = v2)))) (
 k0)
 (
 shut (jnALBack_8
 (
 k0)
 k1) v1 v3 v4 v5 v6)) none)
 (
 shut (jnALBack_8
 (
 k0)
 k1) v1 v3 v4 v5 v6))
 (
 shut (jnALBack_8
 (
 k0)
 k1) v1 v3 v4 v5 v6)
noncomputable def JALBack_6 : St -> (KT) -> OO := fun σ k => match σ with
 | ⟨[(q1, .cl (.int .i64 v1)), (q2, .cl (.int .i64 v2)), (q3, .cl (.sli .u8 v3)), (q4, .ptr q5 q6 q7)], [(q8, ⟨.var [.cl (.int .i64 v4), .cl (.sli .u8 v5), .cl (.slg q9 v6)], false⟩)]⟩ => cond (Nat.beq q1 0 && Nat.beq q2 1 && Nat.beq q3 2 && Nat.beq q4 7 && Nat.beq q5 71 && Nat.beq q6 0 && Nat.beq q7 0 && Nat.beq q8 71 && Nat.beq q9 3) (shut (jnALBack_6 (k .ret ⟨[(8, .cl (.bool false))], []⟩) (fun y1 => k .ret ⟨[(8, .cl (.bool y1))], []⟩)) v1 v2 v3 v4 v5 v6) none
 | _ => none
noncomputable def JALBack_8 : St -> (KT) -> OO := fun σ k => match σ with
 | ⟨[(q1, .cl (.int .i64 v1)), (q2, .cl (.sli .u8 v2)), (q3, .ptr q4 q5 q6)], [(q7, ⟨.var [.cl (.int .i64 v3), .cl (.sli .u8 v4), .cl (.slg q8 v5)], false⟩)]⟩ => cond (Nat.beq q1 0 && Nat.beq q2 2 && Nat.beq q3 7 && Nat.beq q4 71 && Nat.beq q5 0 && Nat.beq q6 0 && Nat.beq q7 71 && Nat.beq q8 3) (shut (jnALBack_8 (k .ret ⟨[(8, .cl (.bool false))], []⟩) (fun y1 => k .ret ⟨[(8, .cl (.bool y1))], []⟩)) v1 v2 v3 v4 v5) none
 | _ => none
noncomputable def EALBack : Env := {
 orc := fun g => cond (Nat.beq g 11) SRFit_ (cond (Nat.beq g 16) SRSame (cond (Nat.beq g 28) SR1Same (cond (Nat.beq g 29) SR2Same (cond (Nat.beq g 30) SAAwake (cond (Nat.beq g 37) SAGroup (cond (Nat.beq g 39) SAId (cond (Nat.beq g 41) SAOf (cond (Nat.beq g 43) SAName (cond (Nat.beq g 54) SRSmall (cond (Nat.beq g 55) SANode (cond (Nat.beq g 56) SARead (fun _ _ => Tree.fail))))))))))))
 pre := fun g => cond (Nat.beq g 11) preRFit_ (cond (Nat.beq g 16) preRSame (cond (Nat.beq g 28) preR1Same (cond (Nat.beq g 29) preR2Same (cond (Nat.beq g 30) preAAwake (cond (Nat.beq g 37) preAGroup (cond (Nat.beq g 39) preAId (cond (Nat.beq g 41) preAOf (cond (Nat.beq g 43) preAName (cond (Nat.beq g 54) preRSmall (cond (Nat.beq g 55) preANode (cond (Nat.beq g 56) preARead (fun _ _ => true))))))))))))
 live := fun r => cond (Nat.beq r 6) ([0, 1, 2, 7]) (cond (Nat.beq r 8) ([0, 2, 7]) ([]))
 glob := glVal
 nt := 139
 xl := fun r => cond (Nat.beq r 0) (some [8]) (cond (Nat.beq r 1006) (some [8]) (cond (Nat.beq r 1008) (some [8]) (none)))
 jn := fun r => cond (Nat.beq r 6) (some (JALBack_6)) (cond (Nat.beq r 8) (some (JALBack_8)) (none))
}
noncomputable def bjnALBack_6 : Code := (Cd.snd (Cd.snd (Cd.snd (Tryd.f7.body.getD .skip))))
theorem JALBack_6_ok : JnOk Tryd.prog (EALBack) 40 bjnALBack_6 6 JALBack_6 := by
 intro σ k r h
 unfold JALBack_6 at h
 split at h
 ·replace h := cond_some h
  obtain ⟨hc, h⟩ := h
  simp only [Bool.and_eq_true, beq_prop, decide_eq_true_eq, Bool.not_eq_true'] at hc
  obtain ⟨⟨⟨⟨⟨⟨⟨⟨rfl, rfl⟩, rfl⟩, rfl⟩, rfl⟩, rfl⟩, rfl⟩, rfl⟩, rfl⟩ := hc
  rw [shut_eq] at h
  exact Eq.trans (by kernel_rfl) h
 ·cases h
noncomputable def bjnALBack_8 : Code := (Cd.snd (Cd.snd (Cd.snd (Cd.snd (Tryd.f7.body.getD .skip)))))
theorem JALBack_8_ok : JnOk Tryd.prog (EALBack) 40 bjnALBack_8 8 JALBack_8 := by
 intro σ k r h
 unfold JALBack_8 at h
 split at h
 ·replace h := cond_some h
  obtain ⟨hc, h⟩ := h
  simp only [Bool.and_eq_true, beq_prop, decide_eq_true_eq, Bool.not_eq_true'] at hc
  obtain ⟨⟨⟨⟨⟨⟨⟨rfl, rfl⟩, rfl⟩, rfl⟩, rfl⟩, rfl⟩, rfl⟩, rfl⟩ := hc
  rw [shut_eq] at h
  exact Eq.trans (by kernel_rfl) h
 ·cases h
theorem loopsALBack : ∀ c, Tryd.f7.body = some c -> LoopsOk Tryd.prog (EALBack) 40 c := by
 intro c hc
 cases hc
 exact ⟨trivial, ⟨noneL_ok _ (by kernel_rfl), ⟨noneL_ok _ (by kernel_rfl), ⟨noneL_ok _ (by kernel_rfl), noneL_ok _ (by kernel_rfl), jn_some rfl (JALBack_8_ok)⟩, jn_some rfl (JALBack_6_ok)⟩, jn_none rfl⟩, jn_none rfl⟩
noncomputable def gALBack (g : Int) (h : Int) (c : LI) (t : Int) (b : LI) (k : LC) : OO :=
 cond (decide ((300 : Int) < ((c.length : Nat) : Int))) (
 let r1 : Bool := true
 some (.ret [.cl (.bool r1)] []))
 (
 cond (isT [.int .i64 t, .sli .u8 b, .slg 3 k] && leftOk 1000) (
 let r2 : Int := ndSmall [.int .i64 t, .sli .u8 b, .slg 3 k] 1000
 cond (decide (r2 < 0)) (
 let r3 : Bool := true
 some (.ret [.cl (.bool r3)] []))
 (
 let r4 : Int := (algFound g).2.1
 cond (!decide (r4 = 0)) (
 let r5 : LI := (algFound g).2.2
 let r6 : Int := algOf r5
 cond (!decide (r6 = g)) (
 some (.ret [.cl (.bool false)] []))
 (
 let r7 : Int := (algFound h).2.1
 cond (!decide (r7 = 0)) (
 let r8 : LI := (algFound g).2.2
 let r9 : LI := (algFound h).2.2
 cond (lenOk r8) (
 let r10 : Bool := listSame r8 r9
 cond (!(r10 == (decide (g = h)))) (
 some (.ret [.cl (.bool false)] []))
 (
 shut (jnALBack_6
 (
 some (.ret [.cl (.bool false)] []))
 (fun y11 =>
 some (.ret [.cl (.bool y11)] []))) g h c t b k)) none)
 (
 shut (jnALBack_6
 (
 some (.ret [.cl (.bool false)] []))
 (fun y12 =>
 some (.ret [.cl (.bool y12)] []))) g h c t b k)))
 (
 shut (jnALBack_6
 (
 some (.ret [.cl (.bool false)] []))
 (fun y13 =>
 some (.ret [.cl (.bool y13)] []))) g h c t b k))) none)
theorem gALBack_eq (g : Int) (h : Int) (c : LI) (t : Int) (b : LI) (k : LC) : bodyK Tryd.prog (EALBack) 40 false Tryd.f7 [.cl (.int .i64 g), .cl (.int .i64 h), .cl (.sli .u8 c), .cl (.agg [.int .i64 t, .sli .u8 b, .slg 3 k])] [] = gALBack g h c t b k := by kernel_rfl

abbrev zONums0 := Int -> Int -> LI -> Int -> Int -> Int -> LI -> Int -> Int -> Int -> Int -> Int -> Int -> Bool -> LI -> OO
abbrev zONums1 := Int -> Int -> LI -> Int -> Int -> Int -> LI -> Int -> Int -> Int -> Int -> Int -> Int -> Bool -> Int -> Bool -> LI -> OO
noncomputable def lpONums_0s (l : Nat) (again : LI -> OO) (k0 : zONums0) (k1 : zONums1) (k2 : LI -> Int -> LI -> OO) (v1 : LI) : OO :=
 cond (decide ((0 : Int) < ((v1.length : Nat) : Int))) (
 cond (bytesOk v1) (
 let r1 : Int := (oidNumber v1).1
 let r2 : Int := (oidNumber v1).2
 cond (Nat.beq l l) (
 yldO [.int .u32 r1, .bool (decide ((0 : Int) < r2))] (
 k0 r1 r2 v1 ((v1.length : Nat) : Int) r1 r2 v1 r1 r2 r1 r2 r1 r2 (decide ((0 : Int) < r2)) v1)
 (
 cond (decide (r2 = 0)) (
 k1 r1 r2 v1 ((v1.length : Nat) : Int) r1 r2 v1 r1 r2 r1 r2 r1 r2 (decide ((0 : Int) < r2)) r2 (decide (r2 = 0)) v1)
 (
 cond (decide ((0 : Int) <= r2)) (
 cond (decide (r2 <= ((v1.length : Nat) : Int))) (
 let l3 : LI := List.drop (Int.toNat r2) v1
 again l3) none) none))) none) none)
 (
 k2 v1 ((v1.length : Nat) : Int) v1)
noncomputable def lpONums_0 (l : Nat) (k0 : zONums0) (k1 : zONums1) (k2 : LI -> Int -> LI -> OO) : Nat -> LI -> OO
 | 0 => fun _ => none
 | n + 1 => lpONums_0s l (lpONums_0 l k0 k1 k2 n) k0 k1 k2
noncomputable def clpONums_0_0 (l : Nat) (k : KT) : zONums0 := fun y1 y2 y3 y4 y5 y6 y7 y8 y9 y10 y11 y12 y13 y14 y15 => k .ret ⟨[(0, .cl (.fn (.yield l) [] [])), (1, .ptr 0 0 0), (3, qD y1), (4, qI y2), (5, qS y3), (6, qI y4), (7, qB true), (8, .tup [qD y5, qI y6]), (9, qS y7), (10, .tup [qD y8, qI y9]), (11, qD y10), (12, qI y11), (13, .cl (.fn (.yield l) [] [])), (14, qD y12), (15, qI y13), (16, qB y14), (17, qB false), (18, qB true), (19, qB true), (20, .tup []), (21, .tup []), (22, qB true)], [(0, ⟨.var [qS y15], false⟩)]⟩
noncomputable def clpONums_0_1 (l : Nat) (k : KT) : zONums1 := fun y1 y2 y3 y4 y5 y6 y7 y8 y9 y10 y11 y12 y13 y14 y15 y16 y17 => k .ret ⟨[(0, .cl (.fn (.yield l) [] [])), (1, .ptr 0 0 0), (3, qD y1), (4, qI y2), (5, qS y3), (6, qI y4), (7, qB true), (8, .tup [qD y5, qI y6]), (9, qS y7), (10, .tup [qD y8, qI y9]), (11, qD y10), (12, qI y11), (13, .cl (.fn (.yield l) [] [])), (14, qD y12), (15, qI y13), (16, qB y14), (17, qB true), (18, qB false), (19, qB false), (20, qI y15), (21, qB y16), (22, qB true)], [(0, ⟨.var [qS y17], false⟩)]⟩
noncomputable def clpONums_0_2 (l : Nat) (k : KT) : LI -> Int -> LI -> OO := fun y1 y2 y3 => k (.exit 0) ⟨[(0, .cl (.fn (.yield l) [] [])), (1, .ptr 0 0 0), (5, qS y1), (6, qI y2), (7, qB false)], [(0, ⟨.var [qS y3], false⟩)]⟩
noncomputable def LONums_0 (l : Nat) : St -> (KT) -> OO := fun σ k => match σ with
 | ⟨[(q1, .cl (.fn (.yield q2) [] [])), (q3, .ptr q4 q5 q6)], [(q7, ⟨.var [.cl (.sli .u8 v1)], false⟩)]⟩ => cond (Nat.beq q1 0 && Nat.beq q3 1 && Nat.beq q4 0 && Nat.beq q5 0 && Nat.beq q6 0 && Nat.beq q7 0 && Nat.beq l q2) (shut (lpONums_0 l (clpONums_0_0 l k) (clpONums_0_1 l k) (clpONums_0_2 l k) FUEL) v1) none
 | _ => none
noncomputable def EONums (l : Nat) : Env := {
 orc := fun g => cond (Nat.beq g 155) SONumber (fun _ _ => Tree.fail)
 pre := fun g => cond (Nat.beq g 155) preONumber (fun _ _ => true)
 live := fun r => cond (Nat.beq r 0) ([0, 1]) ([])
 glob := glVal
 nt := 26
 lp := fun r => cond (Nat.beq r 0) (some (LONums_0 l)) (none)
 rg := false
 yn := l
 yl := fun r => cond (Nat.beq r 2) (some 4) (none)
}
noncomputable def blpONums_0 : Code := (Cd.fst (Cd.fst (Tryd.f154.body.getD .skip)))
theorem lpONums_0_step (l : Nat) (k : KT) (n : Nat) (v1 : LI) : iterK (n + 1) (codeK Tryd.prog (EONums l) 40 blpONums_0) (head (EONums l) 0) ⟨[(0, .cl (.fn (.yield l) [] [])), (1, .ptr 0 0 0)], [(0, ⟨.var [qS v1], false⟩)]⟩ k = lpONums_0s l (fun v1 => iterK n (codeK Tryd.prog (EONums l) 40 blpONums_0) (head (EONums l) 0) ⟨[(0, .cl (.fn (.yield l) [] [])), (1, .ptr 0 0 0)], [(0, ⟨.var [qS v1], false⟩)]⟩ k) (clpONums_0_0 l k) (clpONums_0_1 l k) (clpONums_0_2 l k) v1 := by kernel_rfl
theorem lpONums_0_eq (l : Nat) (k : KT) : ∀ (n : Nat), ∀ (v1 : LI), iterK n (codeK Tryd.prog (EONums l) 40 blpONums_0) (head (EONums l) 0) ⟨[(0, .cl (.fn (.yield l) [] [])), (1, .ptr 0 0 0)], [(0, ⟨.var [qS v1], false⟩)]⟩ k = lpONums_0 l (clpONums_0_0 l k) (clpONums_0_1 l k) (clpONums_0_2 l k) n v1
 | 0 => by intros; rfl
 | n + 1 => by
  intros
  rw [lpONums_0_step]
  have ih := lpONums_0_eq l k n
  simp only [lpONums_0, ih]
theorem LONums_0_ok (l : Nat) : ∀ (σ : St) (k : KT) (r : Out), LONums_0 l σ k = some r -> ∃ n, iterK n (codeK Tryd.prog (EONums l) 40 blpONums_0) (head (EONums l) 0) σ k = some r := by
 intro σ k r h
 unfold LONums_0 at h
 split at h
 ·replace h := cond_some h
  obtain ⟨hc, h⟩ := h
  simp only [Bool.and_eq_true, beq_prop, decide_eq_true_eq, Bool.not_eq_true'] at hc
  obtain ⟨⟨⟨⟨⟨⟨rfl, rfl⟩, rfl⟩, rfl⟩, rfl⟩, rfl⟩, rfl⟩ := hc
  rw [shut_eq] at h
  exact ⟨FUEL, (lpONums_0_eq l k FUEL _ ).trans h⟩
 ·cases h
theorem loopsONums (l : Nat) : ∀ c, Tryd.f154.body = some c -> LoopsOk Tryd.prog (EONums l) 40 c := by
 intro c hc
 cases hc
 exact ⟨noneL_ok _ (by kernel_rfl), lp_some rfl (LONums_0_ok l)⟩
noncomputable def gONums (l : Nat) (b : LI) : OO :=
 cond (Nat.beq l l) (
 shut (lpONums_0 l
 (fun y1 y2 y3 y4 y5 y6 y7 y8 y9 y10 y11 y12 y13 y14 y15 =>
 some (.ret [] [some ⟨.var [.cl (.sli .u8 y15)], false⟩]))
 (fun y16 y17 y18 y19 y20 y21 y22 y23 y24 y25 y26 y27 y28 y29 y30 y31 y32 =>
 some (.ret [] [some ⟨.var [.cl (.sli .u8 y32)], false⟩]))
 (fun y33 y34 y35 =>
 some (.ret [] [some ⟨.var [.cl (.sli .u8 y35)], false⟩]))
 FUEL) b) none
theorem gONums_eq (l : Nat) (b : LI) : bodyK Tryd.prog (EONums l) 40 false Tryd.f154 [.cl (.fn (.yield l) [] []), .ptr 0 0 0] [⟨.var [.cl (.sli .u8 b)], false⟩] = gONums l b := by kernel_rfl

noncomputable def EAlAll (l : Nat) : Env := {
 orc := fun g => cond (Nat.beq g 132) SARoot (fun _ _ => Tree.fail)
 pre := fun g => cond (Nat.beq g 132) preARoot (fun _ _ => true)
 keep := fun g => cond (Nat.beq g 132) true (false)
 live := fun r => cond (Nat.beq r 1) ([0, 7, 8]) (cond (Nat.beq r 4) ([0, 3, 7, 8, 12, 13]) (cond (Nat.beq r 10) ([0, 41]) ([])))
 glob := glVal
 nt := 63
 rg := false
 yn := l
 yl := fun r => cond (Nat.beq r 6) (some 21) (cond (Nat.beq r 13) (some 9) (none))
}
theorem loopsAlAll (l : Nat) : ∀ c, Tryd.f131.body = some c -> LoopsOk Tryd.prog (EAlAll l) 40 c := by
 intro c hc
 cases hc
 exact noneL_ok _ (by kernel_rfl)
noncomputable def gAlAll (l : Nat)  : OO :=
 cond (Nat.beq l l) (
 yldO [.agg [.int .i64 1, .int .i64 1, .sli .u32 [2, 16, 840, 1, 101, 3, 4, 2, 1]]] (
 some (.ret [] []))
 (
 cond (Nat.beq l l) (
 yldO [.agg [.int .i64 2, .int .i64 1, .sli .u32 [2, 16, 840, 1, 101, 3, 4, 2, 2]]] (
 some (.ret [] []))
 (
 cond (Nat.beq l l) (
 yldO [.agg [.int .i64 3, .int .i64 1, .sli .u32 [2, 16, 840, 1, 101, 3, 4, 2, 3]]] (
 some (.ret [] []))
 (
 cond (Nat.beq l l) (
 yldO [.agg [.int .i64 4, .int .i64 1, .sli .u32 [2, 16, 840, 1, 101, 3, 4, 2, 8]]] (
 some (.ret [] []))
 (
 cond (Nat.beq l l) (
 yldO [.agg [.int .i64 5, .int .i64 1, .sli .u32 [2, 16, 840, 1, 101, 3, 4, 2, 10]]] (
 some (.ret [] []))
 (
 cond (Nat.beq l l) (
 yldO [.agg [.int .i64 6, .int .i64 1, .sli .u32 [2, 16, 840, 1, 101, 3, 4, 2, 11]]] (
 some (.ret [] []))
 (
 cond (Nat.beq l l) (
 yldO [.agg [.int .i64 7, .int .i64 1, .sli .u32 [2, 16, 840, 1, 101, 3, 4, 2, 12]]] (
 some (.ret [] []))
 (
 cond (Nat.beq l l) (
 yldO [.agg [.int .i64 11, .int .i64 2, .sli .u32 [2, 16, 840, 1, 101, 3, 4, 3, 17]]] (
 some (.ret [] []))
 (
 cond (Nat.beq l l) (
 yldO [.agg [.int .i64 12, .int .i64 2, .sli .u32 [2, 16, 840, 1, 101, 3, 4, 3, 18]]] (
 some (.ret [] []))
 (
 cond (Nat.beq l l) (
 yldO [.agg [.int .i64 13, .int .i64 2, .sli .u32 [2, 16, 840, 1, 101, 3, 4, 3, 19]]] (
 some (.ret [] []))
 (
 cond (Nat.beq l l) (
 yldO [.agg [.int .i64 33, .int .i64 2, .sli .u32 [2, 999, 1]]] (
 some (.ret [] []))
 (
 cond (Nat.beq l l) (
 yldO [.agg [.int .i64 34, .int .i64 2, .sli .u32 [2, 999, 2]]] (
 some (.ret [] []))
 (
 cond (Nat.beq l l) (
 yldO [.agg [.int .i64 41, .int .i64 2, .sli .u32 [1, 2, 840, 113549, 1, 9, 16, 3, 17]]] (
 some (.ret [] []))
 (
 cond (Nat.beq l l) (
 yldO [.agg [.int .i64 51, .int .i64 3, .sli .u32 [2, 16, 840, 1, 101, 3, 4, 4, 1]]] (
 some (.ret [] []))
 (
 cond (Nat.beq l l) (
 yldO [.agg [.int .i64 52, .int .i64 3, .sli .u32 [2, 16, 840, 1, 101, 3, 4, 4, 2]]] (
 some (.ret [] []))
 (
 cond (Nat.beq l l) (
 yldO [.agg [.int .i64 53, .int .i64 3, .sli .u32 [2, 16, 840, 1, 101, 3, 4, 4, 3]]] (
 some (.ret [] []))
 (
 cond (Nat.beq l l) (
 yldO [.agg [.int .i64 61, .int .i64 4, .sli .u32 [1, 2, 840, 113549, 1, 9, 16, 3, 28]]] (
 some (.ret [] []))
 (
 cond (Nat.beq l l) (
 yldO [.agg [.int .i64 62, .int .i64 4, .sli .u32 [1, 2, 840, 113549, 1, 9, 16, 3, 29]]] (
 some (.ret [] []))
 (
 cond (Nat.beq l l) (
 yldO [.agg [.int .i64 63, .int .i64 4, .sli .u32 [1, 2, 840, 113549, 1, 9, 16, 3, 30]]] (
 some (.ret [] []))
 (
 cond (Nat.beq l l) (
 yldO [.agg [.int .i64 71, .int .i64 5, .sli .u32 [2, 16, 840, 1, 101, 3, 4, 1, 5]]] (
 some (.ret [] []))
 (
 cond (Nat.beq l l) (
 yldO [.agg [.int .i64 72, .int .i64 5, .sli .u32 [2, 16, 840, 1, 101, 3, 4, 1, 25]]] (
 some (.ret [] []))
 (
 cond (Nat.beq l l) (
 yldO [.agg [.int .i64 73, .int .i64 5, .sli .u32 [2, 16, 840, 1, 101, 3, 4, 1, 45]]] (
 some (.ret [] []))
 (
 cond (Nat.beq l l) (
 yldO [.agg [.int .i64 81, .int .i64 6, .sli .u32 [2, 16, 840, 1, 101, 3, 4, 1, 2]]] (
 some (.ret [] []))
 (
 cond (Nat.beq l l) (
 yldO [.agg [.int .i64 82, .int .i64 6, .sli .u32 [2, 16, 840, 1, 101, 3, 4, 1, 22]]] (
 some (.ret [] []))
 (
 cond (Nat.beq l l) (
 yldO [.agg [.int .i64 83, .int .i64 6, .sli .u32 [2, 16, 840, 1, 101, 3, 4, 1, 42]]] (
 some (.ret [] []))
 (
 cond (Nat.beq l l) (
 yldO [.agg [.int .i64 91, .int .i64 7, .sli .u32 [2, 16, 840, 1, 101, 3, 4, 1, 6]]] (
 some (.ret [] []))
 (
 cond (Nat.beq l l) (
 yldO [.agg [.int .i64 92, .int .i64 7, .sli .u32 [2, 16, 840, 1, 101, 3, 4, 1, 26]]] (
 some (.ret [] []))
 (
 cond (Nat.beq l l) (
 yldO [.agg [.int .i64 93, .int .i64 7, .sli .u32 [2, 16, 840, 1, 101, 3, 4, 1, 46]]] (
 some (.ret [] []))
 (
 cond (Nat.beq l l) (
 yldO [.agg [.int .i64 21, .int .i64 2, .sli .u32 [2, 16, 840, 1, 101, 3, 4, 3, 20]]] (
 some (.ret [] []))
 (
 cond (Nat.beq l l) (
 yldO [.agg [.int .i64 22, .int .i64 2, .sli .u32 [2, 16, 840, 1, 101, 3, 4, 3, 26]]] (
 some (.ret [] []))
 (
 cond (Nat.beq l l) (
 yldO [.agg [.int .i64 23, .int .i64 2, .sli .u32 [2, 16, 840, 1, 101, 3, 4, 3, 21]]] (
 some (.ret [] []))
 (
 cond (Nat.beq l l) (
 yldO [.agg [.int .i64 24, .int .i64 2, .sli .u32 [2, 16, 840, 1, 101, 3, 4, 3, 27]]] (
 some (.ret [] []))
 (
 cond (Nat.beq l l) (
 yldO [.agg [.int .i64 25, .int .i64 2, .sli .u32 [2, 16, 840, 1, 101, 3, 4, 3, 22]]] (
 some (.ret [] []))
 (
 cond (Nat.beq l l) (
 yldO [.agg [.int .i64 26, .int .i64 2, .sli .u32 [2, 16, 840, 1, 101, 3, 4, 3, 28]]] (
 some (.ret [] []))
 (
 cond (Nat.beq l l) (
 yldO [.agg [.int .i64 27, .int .i64 2, .sli .u32 [2, 16, 840, 1, 101, 3, 4, 3, 23]]] (
 some (.ret [] []))
 (
 cond (Nat.beq l l) (
 yldO [.agg [.int .i64 28, .int .i64 2, .sli .u32 [2, 16, 840, 1, 101, 3, 4, 3, 29]]] (
 some (.ret [] []))
 (
 cond (Nat.beq l l) (
 yldO [.agg [.int .i64 29, .int .i64 2, .sli .u32 [2, 16, 840, 1, 101, 3, 4, 3, 24]]] (
 some (.ret [] []))
 (
 cond (Nat.beq l l) (
 yldO [.agg [.int .i64 30, .int .i64 2, .sli .u32 [2, 16, 840, 1, 101, 3, 4, 3, 30]]] (
 some (.ret [] []))
 (
 cond (Nat.beq l l) (
 yldO [.agg [.int .i64 31, .int .i64 2, .sli .u32 [2, 16, 840, 1, 101, 3, 4, 3, 25]]] (
 some (.ret [] []))
 (
 cond (Nat.beq l l) (
 yldO [.agg [.int .i64 32, .int .i64 2, .sli .u32 [2, 16, 840, 1, 101, 3, 4, 3, 31]]] (
 some (.ret [] []))
 (
 some (.ret [] []))) none)) none)) none)) none)) none)) none)) none)) none)) none)) none)) none)) none)) none)) none)) none)) none)) none)) none)) none)) none)) none)) none)) none)) none)) none)) none)) none)) none)) none)) none)) none)) none)) none)) none)) none)) none)) none)) none)) none)) none
theorem gAlAll_eq (l : Nat)  : bodyK Tryd.prog (EAlAll l) 40 false Tryd.f131 [.cl (.fn (.yield l) [] [])] [] = gAlAll l  := by kernel_rfl
end Go.Proofs.YtfkpjbbkdkcdcaaDoorA
