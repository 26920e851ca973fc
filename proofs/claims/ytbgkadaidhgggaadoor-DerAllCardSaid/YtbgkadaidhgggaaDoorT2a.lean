/-
 What the reading of apostille/stamp.digits comes to, printed by a program. Conditions: none.
-/
import Derived.Test.YtbgkadaidhgggaaDoorT1
set_option linter.unusedVariables false
set_option linter.unusedSimpArgs false
set_option maxRecDepth 100000
namespace Go.Proofs.YtbgkadaidhgggaaDoorA
noncomputable def EDigits : Env := {
 orc := fun _ => fun _ _ => Tree.fail
 pre := fun _ => fun _ _ => true
 glob := qca
 nt := 31
}
theorem loopsDigits : ∀ c, Tryd.f65.body = some c -> qaq Tryd.prog (EDigits) 40 c := by
 intro c hc
 cases hc
 exact qal _ (by kernel_rfl)
noncomputable def gDigits (s : ByteArray) : OO :=
 cond (decide ((0 : Int) < ((s.size : Nat) : Int))) (
 let x1 : Int := bget s 0
 let x2 : Int := IntKind.i64.wrap x1
 let x3 : Int := IntKind.i64.wrap (x2 - 48)
 cond (decide ((1 : Int) < ((s.size : Nat) : Int))) (
 let x4 : Int := bget s 1
 let x5 : Int := IntKind.i64.wrap x4
 let x6 : Int := IntKind.i64.wrap (x5 - 48)
 cond (decide (x3 < 0)) (
 some (.ret [.cl (.int .i64 (-100000))] []))
 (
 cond (decide ((9 : Int) < x3)) (
 some (.ret [.cl (.int .i64 (-100000))] []))
 (
 cond (decide (x6 < 0)) (
 some (.ret [.cl (.int .i64 (-100000))] []))
 (
 cond (decide ((9 : Int) < x6)) (
 some (.ret [.cl (.int .i64 (-100000))] []))
 (
 let x7 : Int := IntKind.i64.wrap ((10 : Int) * x3)
 let x8 : Int := IntKind.i64.wrap (x7 + x6)
 some (.ret [.cl (.int .i64 x8)] [])))))) none) none
theorem gDigits_eq (s : ByteArray) : qco Tryd.prog (EDigits) 40 false Tryd.f65 [.cl (.str s)] [] = gDigits s := by kernel_rfl

noncomputable def EDLeap : Env := {
 orc := fun _ => fun _ _ => Tree.fail
 pre := fun _ => fun _ _ => true
 glob := qca
 nt := 19
}
theorem loopsDLeap : ∀ c, Tryd.f80.body = some c -> qaq Tryd.prog (EDLeap) 40 c := by
 intro c hc
 cases hc
 exact qal _ (by kernel_rfl)
noncomputable def gDLeap (d0 : Int) (d1 : Int) (d2 : Int) (d3 : Int) (d4 : Int) (d5 : Int) : OO :=
 let x1 : Int := Int.tmod d0 4
 cond (decide (x1 = 0)) (
 let x2 : Int := Int.tmod d0 100
 cond (!decide (x2 = 0)) (
 some (.ret [.cl (.bool true)] []))
 (
 let x3 : Int := Int.tmod d0 400
 some (.ret [.cl (.bool (decide (x3 = 0)))] [])))
 (
 some (.ret [.cl (.bool false)] []))
theorem gDLeap_eq (d0 : Int) (d1 : Int) (d2 : Int) (d3 : Int) (d4 : Int) (d5 : Int) : qco Tryd.prog (EDLeap) 40 false Tryd.f80 [.cl (.aggi 6 .i64 [d0, d1, d2, d3, d4, d5])] [] = gDLeap d0 d1 d2 d3 d4 d5 := by kernel_rfl

noncomputable def EDDays : Env := {
 orc := fun g => cond (Nat.beq g 80) SDLeap (fun _ _ => Tree.fail)
 pre := fun g => cond (Nat.beq g 80) preDLeap (fun _ _ => true)
 glob := qca
 nt := 14
}
theorem loopsDDays : ∀ c, Tryd.f77.body = some c -> qaq Tryd.prog (EDDays) 40 c := by
 intro c hc
 cases hc
 exact qal _ (by kernel_rfl)
noncomputable def gDDays (d0 : Int) (d1 : Int) (d2 : Int) (d3 : Int) (d4 : Int) (d5 : Int) : OO :=
 cond (decide (d1 = 2)) (
 cond (stOk d0) (
 let r1 : Bool := qex d0
 cond (r1) (
 some (.ret [.cl (.int .i64 29)] []))
 (
 some (.ret [.cl (.int .i64 28)] []))) none)
 (
 cond (decide (d1 = 4)) (
 some (.ret [.cl (.int .i64 30)] []))
 (
 cond (decide (d1 = 6)) (
 some (.ret [.cl (.int .i64 30)] []))
 (
 cond (decide (d1 = 9)) (
 some (.ret [.cl (.int .i64 30)] []))
 (
 cond (decide (d1 = 11)) (
 some (.ret [.cl (.int .i64 30)] []))
 (
 some (.ret [.cl (.int .i64 31)] []))))))
theorem gDDays_eq (d0 : Int) (d1 : Int) (d2 : Int) (d3 : Int) (d4 : Int) (d5 : Int) : qco Tryd.prog (EDDays) 40 false Tryd.f77 [.cl (.aggi 6 .i64 [d0, d1, d2, d3, d4, d5])] [] = gDDays d0 d1 d2 d3 d4 d5 := by kernel_rfl

noncomputable def EDFit : Env := {
 orc := fun g => cond (Nat.beq g 77) SDDays (fun _ _ => Tree.fail)
 pre := fun g => cond (Nat.beq g 77) preDDays (fun _ _ => true)
 glob := qca
 nt := 61
}
theorem loopsDFit : ∀ c, Tryd.f66.body = some c -> qaq Tryd.prog (EDFit) 40 c := by
 intro c hc
 cases hc
 exact qal _ (by kernel_rfl)
noncomputable def gDFit (d0 : Int) (d1 : Int) (d2 : Int) (d3 : Int) (d4 : Int) (d5 : Int) : OO :=
 cond (decide (d0 < 1)) (
 some (.ret [.cl (.bool false)] []))
 (
 cond (decide ((9999 : Int) < d0)) (
 some (.ret [.cl (.bool false)] []))
 (
 cond (decide (d1 < 1)) (
 some (.ret [.cl (.bool false)] []))
 (
 cond (decide ((12 : Int) < d1)) (
 some (.ret [.cl (.bool false)] []))
 (
 cond (decide (d2 < 1)) (
 some (.ret [.cl (.bool false)] []))
 (
 cond (stOk d0) (
 let r1 : Int := qew d0 d1
 cond (decide (r1 < d2)) (
 some (.ret [.cl (.bool false)] []))
 (
 cond (decide ((0 : Int) <= d3)) (
 cond (decide (d3 < 24)) (
 cond (decide ((0 : Int) <= d4)) (
 cond (decide (d4 < 60)) (
 cond (decide ((0 : Int) <= d5)) (
 some (.ret [.cl (.bool (decide (d5 < 60)))] []))
 (
 some (.ret [.cl (.bool false)] [])))
 (
 some (.ret [.cl (.bool false)] [])))
 (
 some (.ret [.cl (.bool false)] [])))
 (
 some (.ret [.cl (.bool false)] [])))
 (
 some (.ret [.cl (.bool false)] [])))) none)))))
theorem gDFit_eq (d0 : Int) (d1 : Int) (d2 : Int) (d3 : Int) (d4 : Int) (d5 : Int) : qco Tryd.prog (EDFit) 40 false Tryd.f66 [.cl (.aggi 6 .i64 [d0, d1, d2, d3, d4, d5])] [] = gDFit d0 d1 d2 d3 d4 d5 := by kernel_rfl

noncomputable def EDSecs : Env := {
 orc := fun _ => fun _ _ => Tree.fail
 pre := fun _ => fun _ _ => true
 glob := qca
 nt := 59
}
theorem loopsDSecs : ∀ c, Tryd.f67.body = some c -> qaq Tryd.prog (EDSecs) 40 c := by
 intro c hc
 cases hc
 exact qal _ (by kernel_rfl)
noncomputable def gDSecs (d0 : Int) (d1 : Int) (d2 : Int) (d3 : Int) (d4 : Int) (d5 : Int) : OO :=
 let x1 : Int := IntKind.i64.wrap (d1 - 3)
 cond (decide (x1 < 0)) (
 let x2 : Int := IntKind.i64.wrap (d0 - 1)
 let x3 : Int := IntKind.i64.wrap (x1 + 12)
 let x4 : Int := IntKind.i64.wrap (Int.tdiv x2 400)
 let x5 : Int := Int.tmod x2 400
 let x6 : Int := IntKind.i64.wrap ((153 : Int) * x3)
 let x7 : Int := IntKind.i64.wrap (x6 + 2)
 let x8 : Int := IntKind.i64.wrap (Int.tdiv x7 5)
 let x9 : Int := IntKind.i64.wrap (x8 + d2)
 let x10 : Int := IntKind.i64.wrap (x9 - 1)
 let x11 : Int := IntKind.i64.wrap (x4 * 146097)
 let x12 : Int := IntKind.i64.wrap (x5 * 365)
 let x13 : Int := IntKind.i64.wrap (x11 + x12)
 let x14 : Int := IntKind.i64.wrap (Int.tdiv x5 4)
 let x15 : Int := IntKind.i64.wrap (x13 + x14)
 let x16 : Int := IntKind.i64.wrap (Int.tdiv x5 100)
 let x17 : Int := IntKind.i64.wrap (x15 - x16)
 let x18 : Int := IntKind.i64.wrap (x17 + x10)
 let x19 : Int := IntKind.i64.wrap (x18 - 719468)
 let x20 : Int := IntKind.i64.wrap (x19 * 86400)
 let x21 : Int := IntKind.i64.wrap (d3 * 3600)
 let x22 : Int := IntKind.i64.wrap (d4 * 60)
 let x23 : Int := IntKind.i64.wrap (x21 + x22)
 let x24 : Int := IntKind.i64.wrap (x23 + d5)
 let x25 : Int := IntKind.i64.wrap (x20 + x24)
 some (.ret [.cl (.int .i64 x25)] []))
 (
 let x26 : Int := IntKind.i64.wrap (Int.tdiv d0 400)
 let x27 : Int := Int.tmod d0 400
 let x28 : Int := IntKind.i64.wrap ((153 : Int) * x1)
 let x29 : Int := IntKind.i64.wrap (x28 + 2)
 let x30 : Int := IntKind.i64.wrap (Int.tdiv x29 5)
 let x31 : Int := IntKind.i64.wrap (x30 + d2)
 let x32 : Int := IntKind.i64.wrap (x31 - 1)
 let x33 : Int := IntKind.i64.wrap (x26 * 146097)
 let x34 : Int := IntKind.i64.wrap (x27 * 365)
 let x35 : Int := IntKind.i64.wrap (x33 + x34)
 let x36 : Int := IntKind.i64.wrap (Int.tdiv x27 4)
 let x37 : Int := IntKind.i64.wrap (x35 + x36)
 let x38 : Int := IntKind.i64.wrap (Int.tdiv x27 100)
 let x39 : Int := IntKind.i64.wrap (x37 - x38)
 let x40 : Int := IntKind.i64.wrap (x39 + x32)
 let x41 : Int := IntKind.i64.wrap (x40 - 719468)
 let x42 : Int := IntKind.i64.wrap (x41 * 86400)
 let x43 : Int := IntKind.i64.wrap (d3 * 3600)
 let x44 : Int := IntKind.i64.wrap (d4 * 60)
 let x45 : Int := IntKind.i64.wrap (x43 + x44)
 let x46 : Int := IntKind.i64.wrap (x45 + d5)
 let x47 : Int := IntKind.i64.wrap (x42 + x46)
 some (.ret [.cl (.int .i64 x47)] []))
theorem gDSecs_eq (d0 : Int) (d1 : Int) (d2 : Int) (d3 : Int) (d4 : Int) (d5 : Int) : qco Tryd.prog (EDSecs) 40 false Tryd.f67 [.cl (.aggi 6 .i64 [d0, d1, d2, d3, d4, d5])] [] = gDSecs d0 d1 d2 d3 d4 d5 := by kernel_rfl

noncomputable def ESRead : Env := {
 orc := fun g => cond (Nat.beq g 65) SDigits (cond (Nat.beq g 66) SDFit (cond (Nat.beq g 67) SDSecs (fun _ _ => Tree.fail)))
 pre := fun g => cond (Nat.beq g 65) preDigits (cond (Nat.beq g 66) preDFit (cond (Nat.beq g 67) preDSecs (fun _ _ => true)))
 live := fun r => cond (Nat.beq r 5) ([0, 4, 14]) ([])
 glob := qca
 nt := 38
}
theorem loopsSRead : ∀ c, Tryd.f50.body = some c -> qaq Tryd.prog (ESRead) 40 c := by
 intro c hc
 cases hc
 exact qal _ (by kernel_rfl)
noncomputable def gSRead (s : ByteArray) : OO :=
 cond (!decide (((s.size : Nat) : Int) = 15)) (
 some (.ret [.cl (.int .i64 0), .cl (.int .i64 1)] []))
 (
 cond (decide ((14 : Int) < ((s.size : Nat) : Int))) (
 let x1 : Int := bget s 14
 cond (!decide (x1 = 90)) (
 some (.ret [.cl (.int .i64 0), .cl (.int .i64 1)] []))
 (
 cond (decide ((2 : Int) <= ((s.size : Nat) : Int))) (
 let s2 : ByteArray := s.extract 2 s.size
 cond (decide (2 <= s2.size)) (
 let r3 : Int := qeb s2
 cond (decide ((4 : Int) <= ((s.size : Nat) : Int))) (
 let s4 : ByteArray := s.extract 4 s.size
 cond (decide (2 <= s4.size)) (
 let r5 : Int := qeb s4
 cond (decide ((6 : Int) <= ((s.size : Nat) : Int))) (
 let s6 : ByteArray := s.extract 6 s.size
 cond (decide (2 <= s6.size)) (
 let r7 : Int := qeb s6
 cond (decide ((8 : Int) <= ((s.size : Nat) : Int))) (
 let s8 : ByteArray := s.extract 8 s.size
 cond (decide (2 <= s8.size)) (
 let r9 : Int := qeb s8
 cond (decide ((10 : Int) <= ((s.size : Nat) : Int))) (
 let s10 : ByteArray := s.extract 10 s.size
 cond (decide (2 <= s10.size)) (
 let r11 : Int := qeb s10
 cond (decide ((12 : Int) <= ((s.size : Nat) : Int))) (
 let s12 : ByteArray := s.extract 12 s.size
 cond (decide (2 <= s12.size)) (
 let r13 : Int := qeb s12
 cond (decide (2 <= s.size)) (
 let r14 : Int := qeb s
 let x15 : Int := IntKind.i64.wrap ((100 : Int) * r14)
 let x16 : Int := IntKind.i64.wrap (r3 + x15)
 let r17 : Bool := qlk x16 r5 r7 r9 r11 r13
 cond (!r17) (
 some (.ret [.cl (.int .i64 0), .cl (.int .i64 1)] []))
 (
 cond (qlk x16 r5 r7 r9 r11 r13) (
 let r18 : Int := qk8 x16 r5 r7 r9 r11 r13
 some (.ret [.cl (.int .i64 r18), .cl (.int .i64 0)] [])) none)) none) none) none) none) none) none) none) none) none) none) none) none) none)) none)
theorem gSRead_eq (s : ByteArray) : qco Tryd.prog (ESRead) 40 false Tryd.f50 [.cl (.str s)] [] = gSRead s := by kernel_rfl

noncomputable def ERLeap : Env := {
 orc := fun _ => fun _ _ => Tree.fail
 pre := fun _ => fun _ _ => true
 glob := qca
 nt := 16
}
theorem loopsRLeap : ∀ c, Tryd.f79.body = some c -> qaq Tryd.prog (ERLeap) 40 c := by
 intro c hc
 cases hc
 exact qal _ (by kernel_rfl)
noncomputable def gRLeap (y : Int) : OO :=
 let x1 : Int := Int.tmod y 4
 cond (decide (x1 = 0)) (
 let x2 : Int := Int.tmod y 100
 cond (!decide (x2 = 0)) (
 some (.ret [.cl (.bool true)] []))
 (
 let x3 : Int := Int.tmod y 400
 some (.ret [.cl (.bool (decide (x3 = 0)))] [])))
 (
 let x4 : Int := Int.tmod y 400
 some (.ret [.cl (.bool (decide (x4 = 0)))] []))
theorem gRLeap_eq (y : Int) : qco Tryd.prog (ERLeap) 40 false Tryd.f79 [.cl (.int .i64 y)] [] = gRLeap y := by kernel_rfl

noncomputable def ERDays : Env := {
 orc := fun g => cond (Nat.beq g 79) SRLeap (fun _ _ => Tree.fail)
 pre := fun g => cond (Nat.beq g 79) preRLeap (fun _ _ => true)
 glob := qca
 nt := 29
}
theorem loopsRDays : ∀ c, Tryd.f72.body = some c -> qaq Tryd.prog (ERDays) 40 c := by
 intro c hc
 cases hc
 exact qal _ (by kernel_rfl)
noncomputable def gRDays (y : Int) (m : Int) : OO :=
 cond (decide (y < 1)) (
 some (.ret [.cl (.int .i64 0)] []))
 (
 cond (decide ((9999 : Int) < y)) (
 some (.ret [.cl (.int .i64 0)] []))
 (
 cond (decide (m < 1)) (
 some (.ret [.cl (.int .i64 0)] []))
 (
 cond (decide ((12 : Int) < m)) (
 some (.ret [.cl (.int .i64 0)] []))
 (
 cond (decide (m = 2)) (
 cond (stOk y) (
 let r1 : Bool := qex y
 cond (r1) (
 some (.ret [.cl (.int .i64 29)] []))
 (
 some (.ret [.cl (.int .i64 28)] []))) none)
 (
 cond (decide (m = 4)) (
 some (.ret [.cl (.int .i64 30)] []))
 (
 cond (decide (m = 6)) (
 some (.ret [.cl (.int .i64 30)] []))
 (
 cond (decide (m = 9)) (
 some (.ret [.cl (.int .i64 30)] []))
 (
 cond (decide (m = 11)) (
 some (.ret [.cl (.int .i64 30)] []))
 (
 some (.ret [.cl (.int .i64 31)] []))))))))))
theorem gRDays_eq (y : Int) (m : Int) : qco Tryd.prog (ERDays) 40 false Tryd.f72 [.cl (.int .i64 y), .cl (.int .i64 m)] [] = gRDays y m := by kernel_rfl

noncomputable def ERYears : Env := {
 orc := fun _ => fun _ _ => Tree.fail
 pre := fun _ => fun _ _ => true
 glob := qca
 nt := 19
}
theorem loopsRYears : ∀ c, Tryd.f73.body = some c -> qaq Tryd.prog (ERYears) 40 c := by
 intro c hc
 cases hc
 exact qal _ (by kernel_rfl)
noncomputable def gRYears (y : Int) : OO :=
 let x1 : Int := IntKind.i64.wrap (y - 1)
 let x2 : Int := IntKind.i64.wrap (x1 * 365)
 let x3 : Int := IntKind.i64.wrap (Int.tdiv x1 4)
 let x4 : Int := IntKind.i64.wrap (x2 + x3)
 let x5 : Int := IntKind.i64.wrap (Int.tdiv x1 100)
 let x6 : Int := IntKind.i64.wrap (x4 - x5)
 let x7 : Int := IntKind.i64.wrap (Int.tdiv x1 400)
 let x8 : Int := IntKind.i64.wrap (x6 + x7)
 some (.ret [.cl (.int .i64 x8)] [])
theorem gRYears_eq (y : Int) : qco Tryd.prog (ERYears) 40 false Tryd.f73 [.cl (.int .i64 y)] [] = gRYears y := by kernel_rfl

abbrev zRNumber0 := ByteArray -> Int -> Int -> Int -> ByteArray -> Int -> ByteArray -> Int -> Int -> Bool -> OO
abbrev zRNumber1 := ByteArray -> Int -> Int -> Int -> ByteArray -> Int -> ByteArray -> Int -> Int -> Bool -> ByteArray -> Int -> Int -> Bool -> OO
abbrev zRNumber2 := ByteArray -> Int -> Int -> Int -> ByteArray -> Int -> OO
noncomputable def ql6 (again : ByteArray -> Int -> Int -> OO) (k0 : zRNumber0) (k1 : zRNumber1) (k2 : zRNumber2) (v1 : ByteArray) (v2 v3 : Int) : OO :=
 cond (decide (v3 < ((v1.size : Nat) : Int))) (
 cond (decide ((0 : Int) <= v3)) (
 cond (decide (v3 < ((v1.size : Nat) : Int))) (
 let x1 : Int := bget v1 v3
 cond (decide (x1 < 48)) (
 k0 v1 v2 v3 v3 v1 ((v1.size : Nat) : Int) v1 v3 x1 (decide (x1 < 48)))
 (
 cond (decide ((0 : Int) <= v3)) (
 cond (decide (v3 < ((v1.size : Nat) : Int))) (
 let x2 : Int := bget v1 v3
 cond (decide ((57 : Int) < x2)) (
 k1 v1 v2 v3 v3 v1 ((v1.size : Nat) : Int) v1 v3 x1 (decide (x1 < 48)) v1 v3 x2 (decide ((57 : Int) < x2)))
 (
 let x3 : Int := IntKind.i64.wrap (v2 * 10)
 cond (decide ((0 : Int) <= v3)) (
 cond (decide (v3 < ((v1.size : Nat) : Int))) (
 let x4 : Int := bget v1 v3
 let x5 : Int := IntKind.u8.wrap (x4 - 48)
 let x6 : Int := IntKind.i64.wrap x5
 let x7 : Int := IntKind.i64.wrap (x3 + x6)
 let x8 : Int := IntKind.i64.wrap (v3 + 1)
 again v1 x7 x8) none) none)) none) none)) none) none)
 (
 k2 v1 v2 v3 v3 v1 ((v1.size : Nat) : Int))
noncomputable def qdr (k0 : zRNumber0) (k1 : zRNumber1) (k2 : zRNumber2) : Nat -> ByteArray -> Int -> Int -> OO
 | 0 => fun _ _ _ => none
 | n + 1 => ql6 (qdr k0 k1 k2 n) k0 k1 k2
noncomputable def qgv (k : KT) : zRNumber0 := fun y1 y2 y3 y4 y5 y6 y7 y8 y9 y10 => k .ret ⟨[(0, .cl (.str y1)), (2, .cl (.int .i64 (-1))), (3, qI y2), (4, qI y3), (5, qI y4), (6, .cl (.str y5)), (7, qI y6), (8, qB true), (11, .cl (.str y7)), (12, qI y8), (13, qU y9), (14, qB y10), (15, qB true), (16, .tup []), (17, .tup []), (18, .tup []), (19, .tup []), (20, qB true)], []⟩
noncomputable def qg7 (k : KT) : zRNumber1 := fun y1 y2 y3 y4 y5 y6 y7 y8 y9 y10 y11 y12 y13 y14 => k .ret ⟨[(0, .cl (.str y1)), (2, .cl (.int .i64 (-1))), (3, qI y2), (4, qI y3), (5, qI y4), (6, .cl (.str y5)), (7, qI y6), (8, qB true), (11, .cl (.str y7)), (12, qI y8), (13, qU y9), (14, qB y10), (15, qB false), (16, .cl (.str y11)), (17, qI y12), (18, qU y13), (19, qB y14), (20, qB true)], []⟩
noncomputable def qgu (k : KT) : zRNumber2 := fun y1 y2 y3 y4 y5 y6 => k (.exit 0) ⟨[(0, .cl (.str y1)), (3, qI y2), (4, qI y3), (5, qI y4), (6, .cl (.str y5)), (7, qI y6), (8, qB false)], []⟩
noncomputable def LRNumber_3 : St -> (KT) -> OO := fun σ k => match σ with
 | ⟨[(q1, .cl (.str v1)), (q2, .cl (.int .i64 v2)), (q3, .cl (.int .i64 v3))], []⟩ => cond (Nat.beq q1 0 && Nat.beq q2 3 && Nat.beq q3 4) (shut (qdr (qgv k) (qg7 k) (qgu k) FUEL) v1 v2 v3) none
 | _ => none
noncomputable def ERNumber : Env := {
 orc := fun _ => fun _ _ => Tree.fail
 pre := fun _ => fun _ _ => true
 live := fun r => cond (Nat.beq r 3) ([0, 3, 4]) ([])
 glob := qca
 nt := 30
 lp := fun r => cond (Nat.beq r 3) (some (LRNumber_3)) (none)
}
noncomputable def qh4 : Code := (Cd.fst (Cd.fst (Cd.snd (Cd.fst (Cd.snd (Cd.snd (Tryd.f71.body.getD .skip)))))))
theorem qrv (k : KT) (n : Nat) (v1 : ByteArray) (v2 v3 : Int) : qbi (n + 1) (qa3 Tryd.prog (ERNumber) 40 qh4) (head (ERNumber) 3) ⟨[(0, .cl (.str v1)), (3, qI v2), (4, qI v3)], []⟩ k = ql6 (fun v1 v2 v3 => qbi n (qa3 Tryd.prog (ERNumber) 40 qh4) (head (ERNumber) 3) ⟨[(0, .cl (.str v1)), (3, qI v2), (4, qI v3)], []⟩ k) (qgv k) (qg7 k) (qgu k) v1 v2 v3 := by kernel_rfl
theorem qmt (k : KT) : ∀ (n : Nat), ∀ (v1 : ByteArray) (v2 v3 : Int), qbi n (qa3 Tryd.prog (ERNumber) 40 qh4) (head (ERNumber) 3) ⟨[(0, .cl (.str v1)), (3, qI v2), (4, qI v3)], []⟩ k = qdr (qgv k) (qg7 k) (qgu k) n v1 v2 v3
 | 0 => by intros; rfl
 | n + 1 => by
  intros
  rw [qrv]
  have ih := qmt k n
  simp only [qdr, ih]
theorem LRNumber_3_ok : ∀ (σ : St) (k : KT) (r : Out), LRNumber_3 σ k = some r -> ∃ n, qbi n (qa3 Tryd.prog (ERNumber) 40 qh4) (head (ERNumber) 3) σ k = some r := by
 intro σ k r h
 unfold LRNumber_3 at h
 split at h
 ·replace h := qaa h
  obtain ⟨hc, h⟩ := h
  simp only [Bool.and_eq_true, qbb, decide_eq_true_eq, Bool.not_eq_true'] at hc
  obtain ⟨⟨rfl, rfl⟩, rfl⟩ := hc
  rw [qae] at h
  exact ⟨FUEL, (qmt k FUEL _ _ _ ).trans h⟩
 ·cases h
theorem loopsRNumber : ∀ c, Tryd.f71.body = some c -> qaq Tryd.prog (ERNumber) 40 c := by
 intro c hc
 cases hc
 exact ⟨trivial, ⟨trivial, ⟨⟨trivial, ⟨qal _ (by kernel_rfl), qcc rfl (LRNumber_3_ok)⟩, qag rfl⟩, ⟨trivial, trivial, qag rfl⟩, qag rfl⟩, qag rfl⟩, qag rfl⟩
noncomputable def gRNumber (s : ByteArray) : OO :=
 shut (qdr
 (fun y1 y2 y3 y4 y5 y6 y7 y8 y9 y10 =>
 some (.ret [.cl (.int .i64 (-1))] []))
 (fun y11 y12 y13 y14 y15 y16 y17 y18 y19 y20 y21 y22 y23 y24 =>
 some (.ret [.cl (.int .i64 (-1))] []))
 (fun y25 y26 y27 y28 y29 y30 =>
 some (.ret [.cl (.int .i64 y26)] []))
 FUEL) s 0 0
theorem gRNumber_eq (s : ByteArray) : qco Tryd.prog (ERNumber) 40 false Tryd.f71 [.cl (.str s)] [] = gRNumber s := by kernel_rfl

abbrev zRRead0 := Int -> Int -> Int -> Int -> Int -> Int -> Int -> Int -> Int -> OO
noncomputable def qki (again : Int -> Int -> Int -> Int -> Int -> Int -> Int -> OO) (k0 : zRRead0) (v1 v2 v3 v4 v5 v6 v7 : Int) : OO :=
 cond (decide (v7 < v2)) (
 let r18 : Int := qib v1 v7
 let x19 : Int := IntKind.i64.wrap (v6 + r18)
 let x20 : Int := IntKind.i64.wrap (v7 + 1)
 again v1 v2 v3 v4 v5 x19 x20)
 (
 k0 v1 v2 v3 v4 v5 v6 v7 v7 v2)
noncomputable def qd6 (k0 : zRRead0) : Nat -> Int -> Int -> Int -> Int -> Int -> Int -> Int -> OO
 | 0 => fun _ _ _ _ _ _ _ => none
 | n + 1 => qki (qd6 k0 n) k0
noncomputable def qje (k : KT) : zRRead0 := fun y1 y2 y3 y4 y5 y6 y7 y8 y9 => k (.exit 0) ⟨[(4, qI y1), (5, qI y2), (7, qI y3), (8, qI y4), (9, qI y5), (10, qI y6), (11, qI y7), (76, qI y8), (77, qI y9), (78, qB false)], []⟩
noncomputable def LRRead_13 : St -> (KT) -> OO := fun σ k => match σ with
 | ⟨[(q1, .cl (.int .i64 v1)), (q2, .cl (.int .i64 v2)), (q3, .cl (.int .i64 v3)), (q4, .cl (.int .i64 v4)), (q5, .cl (.int .i64 v5)), (q6, .cl (.int .i64 v6)), (q7, .cl (.int .i64 v7))], []⟩ => cond (Nat.beq q1 4 && Nat.beq q2 5 && Nat.beq q3 7 && Nat.beq q4 8 && Nat.beq q5 9 && Nat.beq q6 10 && Nat.beq q7 11) (shut (qd6 (qje k) FUEL) v1 v2 v3 v4 v5 v6 v7) none
 | _ => none
noncomputable def ERRead : Env := {
 orc := fun g => cond (Nat.beq g 71) SRNumber (cond (Nat.beq g 72) SRDays (cond (Nat.beq g 73) SRYears (fun _ _ => Tree.fail)))
 pre := fun g => cond (Nat.beq g 71) preRNumber (cond (Nat.beq g 72) preRDays (cond (Nat.beq g 73) preRYears (fun _ _ => true)))
 live := fun r => cond (Nat.beq r 13) ([4, 5, 7, 8, 9, 10, 11]) ([])
 glob := qca
 nt := 97
 lp := fun r => cond (Nat.beq r 13) (some (LRRead_13)) (none)
}
noncomputable def qju : Code := (Cd.fst (Cd.fst (Cd.snd (Cd.fst (Cd.snd (Cd.snd (Cd.snd (Cd.snd (Cd.snd (Cd.snd (Cd.snd (Cd.snd (Cd.snd (Cd.snd (Tryd.f56.body.getD .skip)))))))))))))))
theorem lpRRead_13_step (k : KT) (n : Nat) (v1 v2 v3 v4 v5 v6 v7 : Int) : qbi (n + 1) (qa3 Tryd.prog (ERRead) 40 qju) (head (ERRead) 13) ⟨[(4, qI v1), (5, qI v2), (7, qI v3), (8, qI v4), (9, qI v5), (10, qI v6), (11, qI v7)], []⟩ k = qki (fun v1 v2 v3 v4 v5 v6 v7 => qbi n (qa3 Tryd.prog (ERRead) 40 qju) (head (ERRead) 13) ⟨[(4, qI v1), (5, qI v2), (7, qI v3), (8, qI v4), (9, qI v5), (10, qI v6), (11, qI v7)], []⟩ k) (qje k) v1 v2 v3 v4 v5 v6 v7 := by kernel_rfl
theorem qo5 (k : KT) : ∀ (n : Nat), ∀ (v1 v2 v3 v4 v5 v6 v7 : Int), qbi n (qa3 Tryd.prog (ERRead) 40 qju) (head (ERRead) 13) ⟨[(4, qI v1), (5, qI v2), (7, qI v3), (8, qI v4), (9, qI v5), (10, qI v6), (11, qI v7)], []⟩ k = qd6 (qje k) n v1 v2 v3 v4 v5 v6 v7
 | 0 => by intros; rfl
 | n + 1 => by
  intros
  rw [lpRRead_13_step]
  have ih := qo5 k n
  simp only [qd6, ih]
theorem LRRead_13_ok : ∀ (σ : St) (k : KT) (r : Out), LRRead_13 σ k = some r -> ∃ n, qbi n (qa3 Tryd.prog (ERRead) 40 qju) (head (ERRead) 13) σ k = some r := by
 intro σ k r h
 unfold LRRead_13 at h
 split at h
 ·replace h := qaa h
  obtain ⟨hc, h⟩ := h
  simp only [Bool.and_eq_true, qbb, decide_eq_true_eq, Bool.not_eq_true'] at hc
  obtain ⟨⟨⟨⟨⟨⟨rfl, rfl⟩, rfl⟩, rfl⟩, rfl⟩, rfl⟩, rfl⟩ := hc
  rw [qae] at h
  exact ⟨FUEL, (qo5 k FUEL _ _ _ _ _ _ _ ).trans h⟩
 ·cases h
theorem loopsRRead : ∀ c, Tryd.f56.body = some c -> qaq Tryd.prog (ERRead) 40 c := by
 intro c hc
 cases hc
 exact ⟨trivial, ⟨qal _ (by kernel_rfl), ⟨trivial, ⟨trivial, ⟨trivial, ⟨trivial, ⟨trivial, ⟨trivial, ⟨qal _ (by kernel_rfl), ⟨trivial, ⟨⟨trivial, ⟨qal _ (by kernel_rfl), qcc rfl (LRRead_13_ok)⟩, qag rfl⟩, ⟨trivial, trivial, qag rfl⟩, qag rfl⟩, qag rfl⟩, qag rfl⟩, qag rfl⟩, qag rfl⟩, qag rfl⟩, qag rfl⟩, qag rfl⟩, qag rfl⟩, qag rfl⟩, qag rfl⟩
noncomputable def gRRead (s : ByteArray) : OO :=
 cond (!decide (((s.size : Nat) : Int) = 15)) (
 some (.ret [.cl (.int .i64 0), .cl (.int .i64 1)] []))
 (
 cond (decide ((14 : Int) < ((s.size : Nat) : Int))) (
 let x1 : Int := bget s 14
 cond (!decide (x1 = 90)) (
 some (.ret [.cl (.int .i64 0), .cl (.int .i64 1)] []))
 (
 cond (decide ((4 : Int) <= ((s.size : Nat) : Int))) (
 let s2 : ByteArray := s.extract 0 4
 cond (decide (s2.size <= 18)) (
 let r3 : Int := qcx s2
 cond (decide ((6 : Int) <= ((s.size : Nat) : Int))) (
 let s4 : ByteArray := s.extract 4 6
 cond (decide (s4.size <= 18)) (
 let r5 : Int := qcx s4
 cond (decide ((8 : Int) <= ((s.size : Nat) : Int))) (
 let s6 : ByteArray := s.extract 6 8
 cond (decide (s6.size <= 18)) (
 let r7 : Int := qcx s6
 cond (decide ((10 : Int) <= ((s.size : Nat) : Int))) (
 let s8 : ByteArray := s.extract 8 10
 cond (decide (s8.size <= 18)) (
 let r9 : Int := qcx s8
 cond (decide ((12 : Int) <= ((s.size : Nat) : Int))) (
 let s10 : ByteArray := s.extract 10 12
 cond (decide (s10.size <= 18)) (
 let r11 : Int := qcx s10
 cond (decide ((14 : Int) <= ((s.size : Nat) : Int))) (
 let s12 : ByteArray := s.extract 12 14
 cond (decide (s12.size <= 18)) (
 let r13 : Int := qcx s12
 cond (decide (r7 < 1)) (
 some (.ret [.cl (.int .i64 0), .cl (.int .i64 1)] []))
 (
 let r14 : Int := qib r3 r5
 cond (decide (r14 < r7)) (
 some (.ret [.cl (.int .i64 0), .cl (.int .i64 1)] []))
 (
 cond (decide (r9 < 0)) (
 some (.ret [.cl (.int .i64 0), .cl (.int .i64 1)] []))
 (
 cond (decide ((23 : Int) < r9)) (
 some (.ret [.cl (.int .i64 0), .cl (.int .i64 1)] []))
 (
 cond (decide (r11 < 0)) (
 some (.ret [.cl (.int .i64 0), .cl (.int .i64 1)] []))
 (
 cond (decide ((59 : Int) < r11)) (
 some (.ret [.cl (.int .i64 0), .cl (.int .i64 1)] []))
 (
 cond (decide (r13 < 0)) (
 some (.ret [.cl (.int .i64 0), .cl (.int .i64 1)] []))
 (
 cond (decide ((59 : Int) < r13)) (
 some (.ret [.cl (.int .i64 0), .cl (.int .i64 1)] []))
 (
 cond (stOk r3) (
 let r15 : Int := qbl r3
 let x16 : Int := IntKind.i64.wrap (r7 - 1)
 let x17 : Int := IntKind.i64.wrap (r15 + x16)
 shut (qd6
 (fun y18 y19 y20 y21 y22 y23 y24 y25 y26 =>
 let x27 : Int := IntKind.i64.wrap (y23 * 86400)
 let x28 : Int := IntKind.i64.wrap (((-62135596800) : Int) + x27)
 let x29 : Int := IntKind.i64.wrap (y20 * 3600)
 let x30 : Int := IntKind.i64.wrap (y21 * 60)
 let x31 : Int := IntKind.i64.wrap (x29 + x30)
 let x32 : Int := IntKind.i64.wrap (x31 + y22)
 let x33 : Int := IntKind.i64.wrap (x28 + x32)
 some (.ret [.cl (.int .i64 x33), .cl (.int .i64 0)] []))
 FUEL) r3 r5 r9 r11 r13 x17 1) none))))))))) none) none) none) none) none) none) none) none) none) none) none) none)) none)
theorem gRRead_eq (s : ByteArray) : qco Tryd.prog (ERRead) 40 false Tryd.f56 [.cl (.str s)] [] = gRRead s := by kernel_rfl

noncomputable def EDBoxed : Env := {
 orc := fun _ => fun _ _ => Tree.fail
 pre := fun _ => fun _ _ => true
 glob := qca
 nt := 17
}
theorem loopsDBoxed : ∀ c, Tryd.f18.body = some c -> qaq Tryd.prog (EDBoxed) 40 c := by
 intro c hc
 cases hc
 exact qal _ (by kernel_rfl)
noncomputable def gDBoxed (tag : Int) : OO :=
 cond (decide (tag = 48)) (
 some (.ret [.cl (.bool true)] []))
 (
 cond (decide (tag = 49)) (
 some (.ret [.cl (.bool true)] []))
 (
 cond (decide ((160 : Int) <= tag)) (
 some (.ret [.cl (.bool (decide (tag <= 190)))] []))
 (
 some (.ret [.cl (.bool false)] []))))
theorem gDBoxed_eq (tag : Int) : qco Tryd.prog (EDBoxed) 40 false Tryd.f18 [.cl (.int .i64 tag)] [] = gDBoxed tag := by kernel_rfl

noncomputable def ERBoxed : Env := {
 orc := fun _ => fun _ _ => Tree.fail
 pre := fun _ => fun _ _ => true
 glob := qca
 nt := 17
}
theorem loopsRBoxed : ∀ c, Tryd.f19.body = some c -> qaq Tryd.prog (ERBoxed) 40 c := by
 intro c hc
 cases hc
 exact qal _ (by kernel_rfl)
noncomputable def gRBoxed (tag : Int) : OO :=
 cond (decide (tag = 48)) (
 some (.ret [.cl (.bool true)] []))
 (
 cond (decide (tag = 49)) (
 some (.ret [.cl (.bool true)] []))
 (
 cond (decide ((160 : Int) <= tag)) (
 some (.ret [.cl (.bool (decide (tag <= 190)))] []))
 (
 some (.ret [.cl (.bool false)] []))))
theorem gRBoxed_eq (tag : Int) : qco Tryd.prog (ERBoxed) 40 false Tryd.f19 [.cl (.int .i64 tag)] [] = gRBoxed tag := by kernel_rfl

noncomputable def EDKnown : Env := {
 orc := fun g => cond (Nat.beq g 18) SDBoxed (fun _ _ => Tree.fail)
 pre := fun g => cond (Nat.beq g 18) qma (fun _ _ => true)
 glob := qca
 nt := 23
}
theorem loopsDKnown : ∀ c, Tryd.f31.body = some c -> qaq Tryd.prog (EDKnown) 40 c := by
 intro c hc
 cases hc
 exact qal _ (by kernel_rfl)
noncomputable def gDKnown (tag : Int) : OO :=
 cond (decide (tag = 1)) (
 some (.ret [.cl (.bool true)] []))
 (
 cond (decide (tag = 2)) (
 some (.ret [.cl (.bool true)] []))
 (
 cond (decide (tag = 3)) (
 some (.ret [.cl (.bool true)] []))
 (
 cond (decide (tag = 4)) (
 some (.ret [.cl (.bool true)] []))
 (
 cond (decide (tag = 5)) (
 some (.ret [.cl (.bool true)] []))
 (
 cond (decide (tag = 6)) (
 some (.ret [.cl (.bool true)] []))
 (
 cond (decide (tag = 12)) (
 some (.ret [.cl (.bool true)] []))
 (
 cond (decide (tag = 24)) (
 some (.ret [.cl (.bool true)] []))
 (
 let r1 : Bool := qbe tag
 cond (r1) (
 some (.ret [.cl (.bool true)] []))
 (
 cond (decide ((128 : Int) <= tag)) (
 some (.ret [.cl (.bool (decide (tag <= 158)))] []))
 (
 some (.ret [.cl (.bool false)] [])))))))))))
theorem gDKnown_eq (tag : Int) : qco Tryd.prog (EDKnown) 40 false Tryd.f31 [.cl (.int .i64 tag)] [] = gDKnown tag := by kernel_rfl

noncomputable def ERTagged : Env := {
 orc := fun g => cond (Nat.beq g 19) SRBoxed (fun _ _ => Tree.fail)
 pre := fun g => cond (Nat.beq g 19) preRBoxed (fun _ _ => true)
 glob := qca
 nt := 23
}
theorem loopsRTagged : ∀ c, Tryd.f36.body = some c -> qaq Tryd.prog (ERTagged) 40 c := by
 intro c hc
 cases hc
 exact qal _ (by kernel_rfl)
noncomputable def gRTagged (tag : Int) : OO :=
 cond (decide (tag = 1)) (
 some (.ret [.cl (.bool true)] []))
 (
 cond (decide (tag = 2)) (
 some (.ret [.cl (.bool true)] []))
 (
 cond (decide (tag = 3)) (
 some (.ret [.cl (.bool true)] []))
 (
 cond (decide (tag = 4)) (
 some (.ret [.cl (.bool true)] []))
 (
 cond (decide (tag = 5)) (
 some (.ret [.cl (.bool true)] []))
 (
 cond (decide (tag = 6)) (
 some (.ret [.cl (.bool true)] []))
 (
 cond (decide (tag = 12)) (
 some (.ret [.cl (.bool true)] []))
 (
 cond (decide (tag = 24)) (
 some (.ret [.cl (.bool true)] []))
 (
 let r1 : Bool := qbe tag
 cond (r1) (
 some (.ret [.cl (.bool true)] []))
 (
 cond (decide ((128 : Int) <= tag)) (
 some (.ret [.cl (.bool (decide (tag <= 158)))] []))
 (
 some (.ret [.cl (.bool false)] [])))))))))))
theorem gRTagged_eq (tag : Int) : qco Tryd.prog (ERTagged) 40 false Tryd.f36 [.cl (.int .i64 tag)] [] = gRTagged tag := by kernel_rfl

noncomputable def EDLenSize : Env := {
 orc := fun _ => fun _ _ => Tree.fail
 pre := fun _ => fun _ _ => true
 glob := qca
 nt := 12
}
theorem loopsDLenSize : ∀ c, Tryd.f40.body = some c -> qaq Tryd.prog (EDLenSize) 40 c := by
 intro c hc
 cases hc
 exact qal _ (by kernel_rfl)
noncomputable def gDLenSize (n : Int) : OO :=
 cond (decide (n < 128)) (
 some (.ret [.cl (.int .i64 1)] []))
 (
 cond (decide (n < 256)) (
 some (.ret [.cl (.int .i64 2)] []))
 (
 cond (decide (n < 65536)) (
 some (.ret [.cl (.int .i64 3)] []))
 (
 some (.ret [.cl (.int .i64 4)] []))))
theorem gDLenSize_eq (n : Int) : qco Tryd.prog (EDLenSize) 40 false Tryd.f40 [.cl (.int .i64 n)] [] = gDLenSize n := by kernel_rfl

noncomputable def EDNumber : Env := {
 orc := fun _ => fun _ _ => Tree.fail
 pre := fun _ => fun _ _ => true
 glob := qca
 nt := 27
}
theorem loopsDNumber : ∀ c, Tryd.f46.body = some c -> qaq Tryd.prog (EDNumber) 40 c := by
 intro c hc
 cases hc
 exact qal _ (by kernel_rfl)
noncomputable def gDNumber (b : LI) : OO :=
 cond (decide (((b.length : Nat) : Int) < 2)) (
 some (.ret [.cl (.bool (decide (((b.length : Nat) : Int) = 1)))] []))
 (
 cond (decide ((0 : Int) < ((b.length : Nat) : Int))) (
 Option.bind (b[0]?) fun (e1 : Int) =>
 let x2 : Int := IntKind.u64.wrap e1
 let x3 : Int := IntKind.u64.wrap (x2 * 2 ^ 1)
 cond (decide ((1 : Int) < ((b.length : Nat) : Int))) (
 Option.bind (b[1]?) fun (e4 : Int) =>
 let x5 : Int := IntKind.u64.wrap e4
 let x6 : Int := Int.fdiv x5 (2 ^ 7)
 let x7 : Int := IntKind.u64.wrap ((BitVec.ofInt 64 x3 ||| BitVec.ofInt 64 x6).toNat)
 cond (!decide (x7 = 0)) (
 some (.ret [.cl (.bool (!decide (x7 = 511)))] []))
 (
 some (.ret [.cl (.bool false)] []))) none) none)
theorem gDNumber_eq (b : LI) : qco Tryd.prog (EDNumber) 40 false Tryd.f46 [.cl (.sli .u8 b)] [] = gDNumber b := by kernel_rfl

noncomputable def ERFitInt : Env := {
 orc := fun _ => fun _ _ => Tree.fail
 pre := fun _ => fun _ _ => true
 glob := qca
 nt := 33
}
theorem loopsRFitInt : ∀ c, Tryd.f52.body = some c -> qaq Tryd.prog (ERFitInt) 40 c := by
 intro c hc
 cases hc
 exact qal _ (by kernel_rfl)
noncomputable def gRFitInt (b : LI) : OO :=
 cond (decide (((b.length : Nat) : Int) < 2)) (
 some (.ret [.cl (.bool (decide (((b.length : Nat) : Int) = 1)))] []))
 (
 cond (decide ((0 : Int) < ((b.length : Nat) : Int))) (
 Option.bind (b[0]?) fun (e1 : Int) =>
 cond (decide (e1 = 0)) (
 cond (decide ((1 : Int) < ((b.length : Nat) : Int))) (
 Option.bind (b[1]?) fun (e2 : Int) =>
 cond (!(decide (e2 < 128))) (
 cond (decide ((0 : Int) < ((b.length : Nat) : Int))) (
 Option.bind (b[0]?) fun (e3 : Int) =>
 cond (decide (e3 = 255)) (
 cond (decide ((1 : Int) < ((b.length : Nat) : Int))) (
 Option.bind (b[1]?) fun (e4 : Int) =>
 some (.ret [.cl (.bool (!(decide ((128 : Int) <= e4))))] [])) none)
 (
 some (.ret [.cl (.bool true)] []))) none)
 (
 some (.ret [.cl (.bool false)] []))) none)
 (
 cond (decide ((0 : Int) < ((b.length : Nat) : Int))) (
 Option.bind (b[0]?) fun (e5 : Int) =>
 cond (decide (e5 = 255)) (
 cond (decide ((1 : Int) < ((b.length : Nat) : Int))) (
 Option.bind (b[1]?) fun (e6 : Int) =>
 some (.ret [.cl (.bool (!(decide ((128 : Int) <= e6))))] [])) none)
 (
 some (.ret [.cl (.bool true)] []))) none)) none)
theorem gRFitInt_eq (b : LI) : qco Tryd.prog (ERFitInt) 40 false Tryd.f52 [.cl (.sli .u8 b)] [] = gRFitInt b := by kernel_rfl

noncomputable def EDStrip : Env := {
 orc := fun _ => fun _ _ => Tree.fail
 pre := fun _ => fun _ _ => true
 glob := qca
 nt := 32
}
theorem loopsDStrip : ∀ c, Tryd.f47.body = some c -> qaq Tryd.prog (EDStrip) 40 c := by
 intro c hc
 cases hc
 exact qal _ (by kernel_rfl)
noncomputable def gDStrip (b : LI) : OO :=
 cond (decide (((b.length : Nat) : Int) = 0)) (
 some (.ret [.cl (.bool false)] []))
 (
 cond (decide ((0 : Int) < ((b.length : Nat) : Int))) (
 Option.bind (b[0]?) fun (e1 : Int) =>
 cond (decide ((7 : Int) < e1)) (
 some (.ret [.cl (.bool false)] []))
 (
 cond (decide (((b.length : Nat) : Int) = 1)) (
 cond (decide ((0 : Int) < ((b.length : Nat) : Int))) (
 Option.bind (b[0]?) fun (e2 : Int) =>
 some (.ret [.cl (.bool (decide (e2 = 0)))] [])) none)
 (
 let x3 : Int := IntKind.i64.wrap (((b.length : Nat) : Int) - 1)
 cond (decide ((0 : Int) <= x3)) (
 cond (decide (x3 < ((b.length : Nat) : Int))) (
 Option.bind (b[(Int.toNat x3)]?) fun (e4 : Int) =>
 cond (decide ((0 : Int) < ((b.length : Nat) : Int))) (
 Option.bind (b[0]?) fun (e5 : Int) =>
 cond (decide (e5 < 0)) none (
 let x6 : Int := IntKind.u8.wrap (1 * 2 ^ (min e5.toNat 8))
 let x7 : Int := IntKind.u8.wrap (x6 - 1)
 let x8 : Int := IntKind.u8.wrap ((BitVec.ofInt 8 e4 &&& BitVec.ofInt 8 x7).toNat)
 some (.ret [.cl (.bool (decide (x8 = 0)))] []))) none) none) none))) none)
theorem gDStrip_eq (b : LI) : qco Tryd.prog (EDStrip) 40 false Tryd.f47 [.cl (.sli .u8 b)] [] = gDStrip b := by kernel_rfl

noncomputable def ERFitBits : Env := {
 orc := fun _ => fun _ _ => Tree.fail
 pre := fun _ => fun _ _ => true
 glob := qca
 nt := 31
}
theorem loopsRFitBits : ∀ c, Tryd.f53.body = some c -> qaq Tryd.prog (ERFitBits) 40 c := by
 intro c hc
 cases hc
 exact qal _ (by kernel_rfl)
noncomputable def gRFitBits (b : LI) : OO :=
 cond (decide (((b.length : Nat) : Int) = 0)) (
 some (.ret [.cl (.bool false)] []))
 (
 cond (decide ((0 : Int) < ((b.length : Nat) : Int))) (
 Option.bind (b[0]?) fun (e1 : Int) =>
 cond (decide ((7 : Int) < e1)) (
 some (.ret [.cl (.bool false)] []))
 (
 cond (decide (((b.length : Nat) : Int) = 1)) (
 cond (decide ((0 : Int) < ((b.length : Nat) : Int))) (
 Option.bind (b[0]?) fun (e2 : Int) =>
 some (.ret [.cl (.bool (decide (e2 = 0)))] [])) none)
 (
 let x3 : Int := IntKind.i64.wrap (((b.length : Nat) : Int) - 1)
 cond (decide ((0 : Int) <= x3)) (
 cond (decide (x3 < ((b.length : Nat) : Int))) (
 Option.bind (b[(Int.toNat x3)]?) fun (e4 : Int) =>
 cond (decide ((0 : Int) < ((b.length : Nat) : Int))) (
 Option.bind (b[0]?) fun (e5 : Int) =>
 cond (decide (e5 < 0)) none (
 let x6 : Int := IntKind.u8.wrap (1 * 2 ^ (min e5.toNat 8))
 cond (decide (x6 = 0)) none (
 let x7 : Int := Int.tmod e4 x6
 some (.ret [.cl (.bool (decide (x7 = 0)))] [])))) none) none) none))) none)
theorem gRFitBits_eq (b : LI) : qco Tryd.prog (ERFitBits) 40 false Tryd.f53 [.cl (.sli .u8 b)] [] = gRFitBits b := by kernel_rfl

noncomputable def ERCont : Env := {
 orc := fun _ => fun _ _ => Tree.fail
 pre := fun _ => fun _ _ => true
 glob := qca
 nt := 17
}
theorem loopsRCont : ∀ c, Tryd.f78.body = some c -> qaq Tryd.prog (ERCont) 40 c := by
 intro c hc
 cases hc
 exact qal _ (by kernel_rfl)
noncomputable def gRCont (b : LI) (i : Int) : OO :=
 cond (decide (i < ((b.length : Nat) : Int))) (
 cond (decide ((0 : Int) <= i)) (
 cond (decide (i < ((b.length : Nat) : Int))) (
 Option.bind (b[(Int.toNat i)]?) fun (e1 : Int) =>
 let x2 : Int := Int.fdiv e1 (2 ^ 6)
 some (.ret [.cl (.bool (decide (x2 = 2)))] [])) none) none)
 (
 some (.ret [.cl (.bool false)] []))
theorem gRCont_eq (b : LI) (i : Int) : qco Tryd.prog (ERCont) 40 false Tryd.f78 [.cl (.sli .u8 b), .cl (.int .i64 i)] [] = gRCont b i := by kernel_rfl
end Go.Proofs.YtbgkadaidhgggaaDoorA
