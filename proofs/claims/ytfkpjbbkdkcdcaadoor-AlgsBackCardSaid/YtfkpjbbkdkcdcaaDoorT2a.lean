/-
 What the reading of apostille/stamp.digits comes to, printed by a program. Conditions: none.
-/
import Derived.Test.YtfkpjbbkdkcdcaaDoorT1
set_option linter.unusedVariables false
set_option linter.unusedSimpArgs false
set_option maxRecDepth 100000
namespace Go.Proofs.YtfkpjbbkdkcdcaaDoorA
noncomputable def EDigits : Env := {
 orc := fun _ => fun _ _ => Tree.fail
 pre := fun _ => fun _ _ => true
 glob := glVal
 nt := 31
}
theorem loopsDigits : ∀ c, Tryd.f125.body = some c -> LoopsOk Tryd.prog (EDigits) 40 c := by
 intro c hc
 cases hc
 exact noneL_ok _ (by kernel_rfl)
noncomputable def gDigits (s : ByteArray) : OO :=
 cond (decide ((0 : Int) < ((s.size : Nat) : Int))) (
 let x1 : Int := bget s 0
 let x2 : Int := IntKind.i64.wrap x1
 let x3 : Int := IntKind.i64.wrap (x2 - 48)
 cond (decide ((1 : Int) < ((s.size : Nat) : Int))) (
 let x4 : Int := bget s 1
 let x5 : Int := IntKind.i64.wrap x4
 let x6 : Int := IntKind.i64.wrap (x5 - 48)
 cond (decide (x3 < 0)) (
 some (.ret [.cl (.int .i64 (-100000))] []))
 (
 cond (decide ((9 : Int) < x3)) (
 some (.ret [.cl (.int .i64 (-100000))] []))
 (
 cond (decide (x6 < 0)) (
 some (.ret [.cl (.int .i64 (-100000))] []))
 (
 cond (decide ((9 : Int) < x6)) (
 some (.ret [.cl (.int .i64 (-100000))] []))
 (
 let x7 : Int := IntKind.i64.wrap ((10 : Int) * x3)
 let x8 : Int := IntKind.i64.wrap (x7 + x6)
 some (.ret [.cl (.int .i64 x8)] [])))))) none) none
theorem gDigits_eq (s : ByteArray) : bodyK Tryd.prog (EDigits) 40 false Tryd.f125 [.cl (.str s)] [] = gDigits s := by kernel_rfl

noncomputable def EDLeap : Env := {
 orc := fun _ => fun _ _ => Tree.fail
 pre := fun _ => fun _ _ => true
 glob := glVal
 nt := 19
}
theorem loopsDLeap : ∀ c, Tryd.f166.body = some c -> LoopsOk Tryd.prog (EDLeap) 40 c := by
 intro c hc
 cases hc
 exact noneL_ok _ (by kernel_rfl)
noncomputable def gDLeap (d0 : Int) (d1 : Int) (d2 : Int) (d3 : Int) (d4 : Int) (d5 : Int) : OO :=
 let x1 : Int := Int.tmod d0 4
 cond (decide (x1 = 0)) (
 let x2 : Int := Int.tmod d0 100
 cond (!decide (x2 = 0)) (
 some (.ret [.cl (.bool true)] []))
 (
 let x3 : Int := Int.tmod d0 400
 some (.ret [.cl (.bool (decide (x3 = 0)))] [])))
 (
 some (.ret [.cl (.bool false)] []))
theorem gDLeap_eq (d0 : Int) (d1 : Int) (d2 : Int) (d3 : Int) (d4 : Int) (d5 : Int) : bodyK Tryd.prog (EDLeap) 40 false Tryd.f166 [.cl (.aggi 6 .i64 [d0, d1, d2, d3, d4, d5])] [] = gDLeap d0 d1 d2 d3 d4 d5 := by kernel_rfl

noncomputable def EDDays : Env := {
 orc := fun g => cond (Nat.beq g 166) SDLeap (fun _ _ => Tree.fail)
 pre := fun g => cond (Nat.beq g 166) preDLeap (fun _ _ => true)
 glob := glVal
 nt := 14
}
theorem loopsDDays : ∀ c, Tryd.f156.body = some c -> LoopsOk Tryd.prog (EDDays) 40 c := by
 intro c hc
 cases hc
 exact noneL_ok _ (by kernel_rfl)
noncomputable def gDDays (d0 : Int) (d1 : Int) (d2 : Int) (d3 : Int) (d4 : Int) (d5 : Int) : OO :=
 cond (decide (d1 = 2)) (
 cond (stOk d0) (
 let r1 : Bool := stLeap d0
 cond (r1) (
 some (.ret [.cl (.int .i64 29)] []))
 (
 some (.ret [.cl (.int .i64 28)] []))) none)
 (
 cond (decide (d1 = 4)) (
 some (.ret [.cl (.int .i64 30)] []))
 (
 cond (decide (d1 = 6)) (
 some (.ret [.cl (.int .i64 30)] []))
 (
 cond (decide (d1 = 9)) (
 some (.ret [.cl (.int .i64 30)] []))
 (
 cond (decide (d1 = 11)) (
 some (.ret [.cl (.int .i64 30)] []))
 (
 some (.ret [.cl (.int .i64 31)] []))))))
theorem gDDays_eq (d0 : Int) (d1 : Int) (d2 : Int) (d3 : Int) (d4 : Int) (d5 : Int) : bodyK Tryd.prog (EDDays) 40 false Tryd.f156 [.cl (.aggi 6 .i64 [d0, d1, d2, d3, d4, d5])] [] = gDDays d0 d1 d2 d3 d4 d5 := by kernel_rfl

noncomputable def EDFit : Env := {
 orc := fun g => cond (Nat.beq g 156) SDDays (fun _ _ => Tree.fail)
 pre := fun g => cond (Nat.beq g 156) preDDays (fun _ _ => true)
 glob := glVal
 nt := 61
}
theorem loopsDFit : ∀ c, Tryd.f126.body = some c -> LoopsOk Tryd.prog (EDFit) 40 c := by
 intro c hc
 cases hc
 exact noneL_ok _ (by kernel_rfl)
noncomputable def gDFit (d0 : Int) (d1 : Int) (d2 : Int) (d3 : Int) (d4 : Int) (d5 : Int) : OO :=
 cond (decide (d0 < 1)) (
 some (.ret [.cl (.bool false)] []))
 (
 cond (decide ((9999 : Int) < d0)) (
 some (.ret [.cl (.bool false)] []))
 (
 cond (decide (d1 < 1)) (
 some (.ret [.cl (.bool false)] []))
 (
 cond (decide ((12 : Int) < d1)) (
 some (.ret [.cl (.bool false)] []))
 (
 cond (decide (d2 < 1)) (
 some (.ret [.cl (.bool false)] []))
 (
 cond (stOk d0) (
 let r1 : Int := stDays d0 d1
 cond (decide (r1 < d2)) (
 some (.ret [.cl (.bool false)] []))
 (
 cond (decide ((0 : Int) <= d3)) (
 cond (decide (d3 < 24)) (
 cond (decide ((0 : Int) <= d4)) (
 cond (decide (d4 < 60)) (
 cond (decide ((0 : Int) <= d5)) (
 some (.ret [.cl (.bool (decide (d5 < 60)))] []))
 (
 some (.ret [.cl (.bool false)] [])))
 (
 some (.ret [.cl (.bool false)] [])))
 (
 some (.ret [.cl (.bool false)] [])))
 (
 some (.ret [.cl (.bool false)] [])))
 (
 some (.ret [.cl (.bool false)] [])))) none)))))
theorem gDFit_eq (d0 : Int) (d1 : Int) (d2 : Int) (d3 : Int) (d4 : Int) (d5 : Int) : bodyK Tryd.prog (EDFit) 40 false Tryd.f126 [.cl (.aggi 6 .i64 [d0, d1, d2, d3, d4, d5])] [] = gDFit d0 d1 d2 d3 d4 d5 := by kernel_rfl

noncomputable def EDSecs : Env := {
 orc := fun _ => fun _ _ => Tree.fail
 pre := fun _ => fun _ _ => true
 glob := glVal
 nt := 59
}
theorem loopsDSecs : ∀ c, Tryd.f127.body = some c -> LoopsOk Tryd.prog (EDSecs) 40 c := by
 intro c hc
 cases hc
 exact noneL_ok _ (by kernel_rfl)
noncomputable def gDSecs (d0 : Int) (d1 : Int) (d2 : Int) (d3 : Int) (d4 : Int) (d5 : Int) : OO :=
 let x1 : Int := IntKind.i64.wrap (d1 - 3)
 cond (decide (x1 < 0)) (
 let x2 : Int := IntKind.i64.wrap (d0 - 1)
 let x3 : Int := IntKind.i64.wrap (x1 + 12)
 let x4 : Int := IntKind.i64.wrap (Int.tdiv x2 400)
 let x5 : Int := Int.tmod x2 400
 let x6 : Int := IntKind.i64.wrap ((153 : Int) * x3)
 let x7 : Int := IntKind.i64.wrap (x6 + 2)
 let x8 : Int := IntKind.i64.wrap (Int.tdiv x7 5)
 let x9 : Int := IntKind.i64.wrap (x8 + d2)
 let x10 : Int := IntKind.i64.wrap (x9 - 1)
 let x11 : Int := IntKind.i64.wrap (x4 * 146097)
 let x12 : Int := IntKind.i64.wrap (x5 * 365)
 let x13 : Int := IntKind.i64.wrap (x11 + x12)
 let x14 : Int := IntKind.i64.wrap (Int.tdiv x5 4)
 let x15 : Int := IntKind.i64.wrap (x13 + x14)
 let x16 : Int := IntKind.i64.wrap (Int.tdiv x5 100)
 let x17 : Int := IntKind.i64.wrap (x15 - x16)
 let x18 : Int := IntKind.i64.wrap (x17 + x10)
 let x19 : Int := IntKind.i64.wrap (x18 - 719468)
 let x20 : Int := IntKind.i64.wrap (x19 * 86400)
 let x21 : Int := IntKind.i64.wrap (d3 * 3600)
 let x22 : Int := IntKind.i64.wrap (d4 * 60)
 let x23 : Int := IntKind.i64.wrap (x21 + x22)
 let x24 : Int := IntKind.i64.wrap (x23 + d5)
 let x25 : Int := IntKind.i64.wrap (x20 + x24)
 some (.ret [.cl (.int .i64 x25)] []))
 (
 let x26 : Int := IntKind.i64.wrap (Int.tdiv d0 400)
 let x27 : Int := Int.tmod d0 400
 let x28 : Int := IntKind.i64.wrap ((153 : Int) * x1)
 let x29 : Int := IntKind.i64.wrap (x28 + 2)
 let x30 : Int := IntKind.i64.wrap (Int.tdiv x29 5)
 let x31 : Int := IntKind.i64.wrap (x30 + d2)
 let x32 : Int := IntKind.i64.wrap (x31 - 1)
 let x33 : Int := IntKind.i64.wrap (x26 * 146097)
 let x34 : Int := IntKind.i64.wrap (x27 * 365)
 let x35 : Int := IntKind.i64.wrap (x33 + x34)
 let x36 : Int := IntKind.i64.wrap (Int.tdiv x27 4)
 let x37 : Int := IntKind.i64.wrap (x35 + x36)
 let x38 : Int := IntKind.i64.wrap (Int.tdiv x27 100)
 let x39 : Int := IntKind.i64.wrap (x37 - x38)
 let x40 : Int := IntKind.i64.wrap (x39 + x32)
 let x41 : Int := IntKind.i64.wrap (x40 - 719468)
 let x42 : Int := IntKind.i64.wrap (x41 * 86400)
 let x43 : Int := IntKind.i64.wrap (d3 * 3600)
 let x44 : Int := IntKind.i64.wrap (d4 * 60)
 let x45 : Int := IntKind.i64.wrap (x43 + x44)
 let x46 : Int := IntKind.i64.wrap (x45 + d5)
 let x47 : Int := IntKind.i64.wrap (x42 + x46)
 some (.ret [.cl (.int .i64 x47)] []))
theorem gDSecs_eq (d0 : Int) (d1 : Int) (d2 : Int) (d3 : Int) (d4 : Int) (d5 : Int) : bodyK Tryd.prog (EDSecs) 40 false Tryd.f127 [.cl (.aggi 6 .i64 [d0, d1, d2, d3, d4, d5])] [] = gDSecs d0 d1 d2 d3 d4 d5 := by kernel_rfl

noncomputable def ESRead : Env := {
 orc := fun g => cond (Nat.beq g 125) SDigits (cond (Nat.beq g 126) SDFit (cond (Nat.beq g 127) SDSecs (fun _ _ => Tree.fail)))
 pre := fun g => cond (Nat.beq g 125) preDigits (cond (Nat.beq g 126) preDFit (cond (Nat.beq g 127) preDSecs (fun _ _ => true)))
 live := fun r => cond (Nat.beq r 5) ([0, 4, 14]) ([])
 glob := glVal
 nt := 38
}
theorem loopsSRead : ∀ c, Tryd.f85.body = some c -> LoopsOk Tryd.prog (ESRead) 40 c := by
 intro c hc
 cases hc
 exact noneL_ok _ (by kernel_rfl)
noncomputable def gSRead (s : ByteArray) : OO :=
 cond (!decide (((s.size : Nat) : Int) = 15)) (
 some (.ret [.cl (.int .i64 0), .cl (.int .i64 1)] []))
 (
 cond (decide ((14 : Int) < ((s.size : Nat) : Int))) (
 let x1 : Int := bget s 14
 cond (!decide (x1 = 90)) (
 some (.ret [.cl (.int .i64 0), .cl (.int .i64 1)] []))
 (
 cond (decide ((2 : Int) <= ((s.size : Nat) : Int))) (
 let s2 : ByteArray := s.extract 2 s.size
 cond (decide (2 <= s2.size)) (
 let r3 : Int := stDigits s2
 cond (decide ((4 : Int) <= ((s.size : Nat) : Int))) (
 let s4 : ByteArray := s.extract 4 s.size
 cond (decide (2 <= s4.size)) (
 let r5 : Int := stDigits s4
 cond (decide ((6 : Int) <= ((s.size : Nat) : Int))) (
 let s6 : ByteArray := s.extract 6 s.size
 cond (decide (2 <= s6.size)) (
 let r7 : Int := stDigits s6
 cond (decide ((8 : Int) <= ((s.size : Nat) : Int))) (
 let s8 : ByteArray := s.extract 8 s.size
 cond (decide (2 <= s8.size)) (
 let r9 : Int := stDigits s8
 cond (decide ((10 : Int) <= ((s.size : Nat) : Int))) (
 let s10 : ByteArray := s.extract 10 s.size
 cond (decide (2 <= s10.size)) (
 let r11 : Int := stDigits s10
 cond (decide ((12 : Int) <= ((s.size : Nat) : Int))) (
 let s12 : ByteArray := s.extract 12 s.size
 cond (decide (2 <= s12.size)) (
 let r13 : Int := stDigits s12
 cond (decide (2 <= s.size)) (
 let r14 : Int := stDigits s
 let x15 : Int := IntKind.i64.wrap ((100 : Int) * r14)
 let x16 : Int := IntKind.i64.wrap (r3 + x15)
 let r17 : Bool := stFit x16 r5 r7 r9 r11 r13
 cond (!r17) (
 some (.ret [.cl (.int .i64 0), .cl (.int .i64 1)] []))
 (
 cond (stFit x16 r5 r7 r9 r11 r13) (
 let r18 : Int := stSecs x16 r5 r7 r9 r11 r13
 some (.ret [.cl (.int .i64 r18), .cl (.int .i64 0)] [])) none)) none) none) none) none) none) none) none) none) none) none) none) none) none)) none)
theorem gSRead_eq (s : ByteArray) : bodyK Tryd.prog (ESRead) 40 false Tryd.f85 [.cl (.str s)] [] = gSRead s := by kernel_rfl

noncomputable def ERLeap : Env := {
 orc := fun _ => fun _ _ => Tree.fail
 pre := fun _ => fun _ _ => true
 glob := glVal
 nt := 16
}
theorem loopsRLeap : ∀ c, Tryd.f157.body = some c -> LoopsOk Tryd.prog (ERLeap) 40 c := by
 intro c hc
 cases hc
 exact noneL_ok _ (by kernel_rfl)
noncomputable def gRLeap (y : Int) : OO :=
 let x1 : Int := Int.tmod y 4
 cond (decide (x1 = 0)) (
 let x2 : Int := Int.tmod y 100
 cond (!decide (x2 = 0)) (
 some (.ret [.cl (.bool true)] []))
 (
 let x3 : Int := Int.tmod y 400
 some (.ret [.cl (.bool (decide (x3 = 0)))] [])))
 (
 let x4 : Int := Int.tmod y 400
 some (.ret [.cl (.bool (decide (x4 = 0)))] []))
theorem gRLeap_eq (y : Int) : bodyK Tryd.prog (ERLeap) 40 false Tryd.f157 [.cl (.int .i64 y)] [] = gRLeap y := by kernel_rfl

noncomputable def ERDays : Env := {
 orc := fun g => cond (Nat.beq g 157) SRLeap (fun _ _ => Tree.fail)
 pre := fun g => cond (Nat.beq g 157) preRLeap (fun _ _ => true)
 glob := glVal
 nt := 29
}
theorem loopsRDays : ∀ c, Tryd.f129.body = some c -> LoopsOk Tryd.prog (ERDays) 40 c := by
 intro c hc
 cases hc
 exact noneL_ok _ (by kernel_rfl)
noncomputable def gRDays (y : Int) (m : Int) : OO :=
 cond (decide (y < 1)) (
 some (.ret [.cl (.int .i64 0)] []))
 (
 cond (decide ((9999 : Int) < y)) (
 some (.ret [.cl (.int .i64 0)] []))
 (
 cond (decide (m < 1)) (
 some (.ret [.cl (.int .i64 0)] []))
 (
 cond (decide ((12 : Int) < m)) (
 some (.ret [.cl (.int .i64 0)] []))
 (
 cond (decide (m = 2)) (
 cond (stOk y) (
 let r1 : Bool := stLeap y
 cond (r1) (
 some (.ret [.cl (.int .i64 29)] []))
 (
 some (.ret [.cl (.int .i64 28)] []))) none)
 (
 cond (decide (m = 4)) (
 some (.ret [.cl (.int .i64 30)] []))
 (
 cond (decide (m = 6)) (
 some (.ret [.cl (.int .i64 30)] []))
 (
 cond (decide (m = 9)) (
 some (.ret [.cl (.int .i64 30)] []))
 (
 cond (decide (m = 11)) (
 some (.ret [.cl (.int .i64 30)] []))
 (
 some (.ret [.cl (.int .i64 31)] []))))))))))
theorem gRDays_eq (y : Int) (m : Int) : bodyK Tryd.prog (ERDays) 40 false Tryd.f129 [.cl (.int .i64 y), .cl (.int .i64 m)] [] = gRDays y m := by kernel_rfl

noncomputable def ERYears : Env := {
 orc := fun _ => fun _ _ => Tree.fail
 pre := fun _ => fun _ _ => true
 glob := glVal
 nt := 19
}
theorem loopsRYears : ∀ c, Tryd.f130.body = some c -> LoopsOk Tryd.prog (ERYears) 40 c := by
 intro c hc
 cases hc
 exact noneL_ok _ (by kernel_rfl)
noncomputable def gRYears (y : Int) : OO :=
 let x1 : Int := IntKind.i64.wrap (y - 1)
 let x2 : Int := IntKind.i64.wrap (x1 * 365)
 let x3 : Int := IntKind.i64.wrap (Int.tdiv x1 4)
 let x4 : Int := IntKind.i64.wrap (x2 + x3)
 let x5 : Int := IntKind.i64.wrap (Int.tdiv x1 100)
 let x6 : Int := IntKind.i64.wrap (x4 - x5)
 let x7 : Int := IntKind.i64.wrap (Int.tdiv x1 400)
 let x8 : Int := IntKind.i64.wrap (x6 + x7)
 some (.ret [.cl (.int .i64 x8)] [])
theorem gRYears_eq (y : Int) : bodyK Tryd.prog (ERYears) 40 false Tryd.f130 [.cl (.int .i64 y)] [] = gRYears y := by kernel_rfl

abbrev zRNumber0 := ByteArray -> Int -> Int -> Int -> ByteArray -> Int -> ByteArray -> Int -> Int -> Bool -> OO
abbrev zRNumber1 := ByteArray -> Int -> Int -> Int -> ByteArray -> Int -> ByteArray -> Int -> Int -> Bool -> ByteArray -> Int -> Int -> Bool -> OO
abbrev zRNumber2 := ByteArray -> Int -> Int -> Int -> ByteArray -> Int -> OO
noncomputable def lpRNumber_3s (again : ByteArray -> Int -> Int -> OO) (k0 : zRNumber0) (k1 : zRNumber1) (k2 : zRNumber2) (v1 : ByteArray) (v2 v3 : Int) : OO :=
 cond (decide (v3 < ((v1.size : Nat) : Int))) (
 cond (decide ((0 : Int) <= v3)) (
 cond (decide (v3 < ((v1.size : Nat) : Int))) (
 let x1 : Int := bget v1 v3
 cond (decide (x1 < 48)) (
 k0 v1 v2 v3 v3 v1 ((v1.size : Nat) : Int) v1 v3 x1 (decide (x1 < 48)))
 (
 cond (decide ((0 : Int) <= v3)) (
 cond (decide (v3 < ((v1.size : Nat) : Int))) (
 let x2 : Int := bget v1 v3
 cond (decide ((57 : Int) < x2)) (
 k1 v1 v2 v3 v3 v1 ((v1.size : Nat) : Int) v1 v3 x1 (decide (x1 < 48)) v1 v3 x2 (decide ((57 : Int) < x2)))
 (
 let x3 : Int := IntKind.i64.wrap (v2 * 10)
 cond (decide ((0 : Int) <= v3)) (
 cond (decide (v3 < ((v1.size : Nat) : Int))) (
 let x4 : Int := bget v1 v3
 let x5 : Int := IntKind.u8.wrap (x4 - 48)
 let x6 : Int := IntKind.i64.wrap x5
 let x7 : Int := IntKind.i64.wrap (x3 + x6)
 let x8 : Int := IntKind.i64.wrap (v3 + 1)
 again v1 x7 x8) none) none)) none) none)) none) none)
 (
 k2 v1 v2 v3 v3 v1 ((v1.size : Nat) : Int))
noncomputable def lpRNumber_3 (k0 : zRNumber0) (k1 : zRNumber1) (k2 : zRNumber2) : Nat -> ByteArray -> Int -> Int -> OO
 | 0 => fun _ _ _ => none
 | n + 1 => lpRNumber_3s (lpRNumber_3 k0 k1 k2 n) k0 k1 k2
noncomputable def clpRNumber_3_0 (k : KT) : zRNumber0 := fun y1 y2 y3 y4 y5 y6 y7 y8 y9 y10 => k .ret ⟨[(0, .cl (.str y1)), (2, .cl (.int .i64 (-1))), (3, qI y2), (4, qI y3), (5, qI y4), (6, .cl (.str y5)), (7, qI y6), (8, qB true), (11, .cl (.str y7)), (12, qI y8), (13, qU y9), (14, qB y10), (15, qB true), (16, .tup []), (17, .tup []), (18, .tup []), (19, .tup []), (20, qB true)], []⟩
noncomputable def clpRNumber_3_1 (k : KT) : zRNumber1 := fun y1 y2 y3 y4 y5 y6 y7 y8 y9 y10 y11 y12 y13 y14 => k .ret ⟨[(0, .cl (.str y1)), (2, .cl (.int .i64 (-1))), (3, qI y2), (4, qI y3), (5, qI y4), (6, .cl (.str y5)), (7, qI y6), (8, qB true), (11, .cl (.str y7)), (12, qI y8), (13, qU y9), (14, qB y10), (15, qB false), (16, .cl (.str y11)), (17, qI y12), (18, qU y13), (19, qB y14), (20, qB true)], []⟩
noncomputable def clpRNumber_3_2 (k : KT) : zRNumber2 := fun y1 y2 y3 y4 y5 y6 => k (.exit 0) ⟨[(0, .cl (.str y1)), (3, qI y2), (4, qI y3), (5, qI y4), (6, .cl (.str y5)), (7, qI y6), (8, qB false)], []⟩
noncomputable def LRNumber_3 : St -> (KT) -> OO := fun σ k => match σ with
 | ⟨[(q1, .cl (.str v1)), (q2, .cl (.int .i64 v2)), (q3, .cl (.int .i64 v3))], []⟩ => cond (Nat.beq q1 0 && Nat.beq q2 3 && Nat.beq q3 4) (shut (lpRNumber_3 (clpRNumber_3_0 k) (clpRNumber_3_1 k) (clpRNumber_3_2 k) FUEL) v1 v2 v3) none
 | _ => none
noncomputable def ERNumber : Env := {
 orc := fun _ => fun _ _ => Tree.fail
 pre := fun _ => fun _ _ => true
 live := fun r => cond (Nat.beq r 3) ([0, 3, 4]) ([])
 glob := glVal
 nt := 30
 lp := fun r => cond (Nat.beq r 3) (some (LRNumber_3)) (none)
}
noncomputable def blpRNumber_3 : Code := (Cd.fst (Cd.fst (Cd.snd (Cd.fst (Cd.snd (Cd.snd (Tryd.f128.body.getD .skip)))))))
theorem lpRNumber_3_step (k : KT) (n : Nat) (v1 : ByteArray) (v2 v3 : Int) : iterK (n + 1) (codeK Tryd.prog (ERNumber) 40 blpRNumber_3) (head (ERNumber) 3) ⟨[(0, .cl (.str v1)), (3, qI v2), (4, qI v3)], []⟩ k = lpRNumber_3s (fun v1 v2 v3 => iterK n (codeK Tryd.prog (ERNumber) 40 blpRNumber_3) (head (ERNumber) 3) ⟨[(0, .cl (.str v1)), (3, qI v2), (4, qI v3)], []⟩ k) (clpRNumber_3_0 k) (clpRNumber_3_1 k) (clpRNumber_3_2 k) v1 v2 v3 := by kernel_rfl
theorem lpRNumber_3_eq (k : KT) : ∀ (n : Nat), ∀ (v1 : ByteArray) (v2 v3 : Int), iterK n (codeK Tryd.prog (ERNumber) 40 blpRNumber_3) (head (ERNumber) 3) ⟨[(0, .cl (.str v1)), (3, qI v2), (4, qI v3)], []⟩ k = lpRNumber_3 (clpRNumber_3_0 k) (clpRNumber_3_1 k) (clpRNumber_3_2 k) n v1 v2 v3
 | 0 => by intros; rfl
 | n + 1 => by
  intros
  rw [lpRNumber_3_step]
  have ih := lpRNumber_3_eq k n
  simp only [lpRNumber_3, ih]
theorem LRNumber_3_ok : ∀ (σ : St) (k : KT) (r : Out), LRNumber_3 σ k = some r -> ∃ n, iterK n (codeK Tryd.prog (ERNumber) 40 blpRNumber_3) (head (ERNumber) 3) σ k = some r := by
 intro σ k r h
 unfold LRNumber_3 at h
 split at h
 ·replace h := cond_some h
  obtain ⟨hc, h⟩ := h
  simp only [Bool.and_eq_true, beq_prop, decide_eq_true_eq, Bool.not_eq_true'] at hc
  obtain ⟨⟨rfl, rfl⟩, rfl⟩ := hc
  rw [shut_eq] at h
  exact ⟨FUEL, (lpRNumber_3_eq k FUEL _ _ _ ).trans h⟩
 ·cases h
theorem loopsRNumber : ∀ c, Tryd.f128.body = some c -> LoopsOk Tryd.prog (ERNumber) 40 c := by
 intro c hc
 cases hc
 exact ⟨trivial, ⟨trivial, ⟨⟨trivial, ⟨noneL_ok _ (by kernel_rfl), lp_some rfl (LRNumber_3_ok)⟩, jn_none rfl⟩, ⟨trivial, trivial, jn_none rfl⟩, jn_none rfl⟩, jn_none rfl⟩, jn_none rfl⟩
noncomputable def gRNumber (s : ByteArray) : OO :=
 shut (lpRNumber_3
 (fun y1 y2 y3 y4 y5 y6 y7 y8 y9 y10 =>
 some (.ret [.cl (.int .i64 (-1))] []))
 (fun y11 y12 y13 y14 y15 y16 y17 y18 y19 y20 y21 y22 y23 y24 =>
 some (.ret [.cl (.int .i64 (-1))] []))
 (fun y25 y26 y27 y28 y29 y30 =>
 some (.ret [.cl (.int .i64 y26)] []))
 FUEL) s 0 0
theorem gRNumber_eq (s : ByteArray) : bodyK Tryd.prog (ERNumber) 40 false Tryd.f128 [.cl (.str s)] [] = gRNumber s := by kernel_rfl

abbrev zRRead0 := Int -> Int -> Int -> Int -> Int -> Int -> Int -> Int -> Int -> OO
noncomputable def lpRRead_13s (again : Int -> Int -> Int -> Int -> Int -> Int -> Int -> OO) (k0 : zRRead0) (v1 v2 v3 v4 v5 v6 v7 : Int) : OO :=
 cond (decide (v7 < v2)) (
 let r18 : Int := stMonth v1 v7
 let x19 : Int := IntKind.i64.wrap (v6 + r18)
 let x20 : Int := IntKind.i64.wrap (v7 + 1)
 again v1 v2 v3 v4 v5 x19 x20)
 (
 k0 v1 v2 v3 v4 v5 v6 v7 v7 v2)
noncomputable def lpRRead_13 (k0 : zRRead0) : Nat -> Int -> Int -> Int -> Int -> Int -> Int -> Int -> OO
 | 0 => fun _ _ _ _ _ _ _ => none
 | n + 1 => lpRRead_13s (lpRRead_13 k0 n) k0
noncomputable def clpRRead_13_0 (k : KT) : zRRead0 := fun y1 y2 y3 y4 y5 y6 y7 y8 y9 => k (.exit 0) ⟨[(4, qI y1), (5, qI y2), (7, qI y3), (8, qI y4), (9, qI y5), (10, qI y6), (11, qI y7), (76, qI y8), (77, qI y9), (78, qB false)], []⟩
noncomputable def LRRead_13 : St -> (KT) -> OO := fun σ k => match σ with
 | ⟨[(q1, .cl (.int .i64 v1)), (q2, .cl (.int .i64 v2)), (q3, .cl (.int .i64 v3)), (q4, .cl (.int .i64 v4)), (q5, .cl (.int .i64 v5)), (q6, .cl (.int .i64 v6)), (q7, .cl (.int .i64 v7))], []⟩ => cond (Nat.beq q1 4 && Nat.beq q2 5 && Nat.beq q3 7 && Nat.beq q4 8 && Nat.beq q5 9 && Nat.beq q6 10 && Nat.beq q7 11) (shut (lpRRead_13 (clpRRead_13_0 k) FUEL) v1 v2 v3 v4 v5 v6 v7) none
 | _ => none
noncomputable def ERRead : Env := {
 orc := fun g => cond (Nat.beq g 128) SRNumber (cond (Nat.beq g 129) SRDays (cond (Nat.beq g 130) SRYears (fun _ _ => Tree.fail)))
 pre := fun g => cond (Nat.beq g 128) preRNumber (cond (Nat.beq g 129) preRDays (cond (Nat.beq g 130) preRYears (fun _ _ => true)))
 live := fun r => cond (Nat.beq r 13) ([4, 5, 7, 8, 9, 10, 11]) ([])
 glob := glVal
 nt := 97
 lp := fun r => cond (Nat.beq r 13) (some (LRRead_13)) (none)
}
noncomputable def blpRRead_13 : Code := (Cd.fst (Cd.fst (Cd.snd (Cd.fst (Cd.snd (Cd.snd (Cd.snd (Cd.snd (Cd.snd (Cd.snd (Cd.snd (Cd.snd (Cd.snd (Cd.snd (Tryd.f86.body.getD .skip)))))))))))))))
theorem lpRRead_13_step (k : KT) (n : Nat) (v1 v2 v3 v4 v5 v6 v7 : Int) : iterK (n + 1) (codeK Tryd.prog (ERRead) 40 blpRRead_13) (head (ERRead) 13) ⟨[(4, qI v1), (5, qI v2), (7, qI v3), (8, qI v4), (9, qI v5), (10, qI v6), (11, qI v7)], []⟩ k = lpRRead_13s (fun v1 v2 v3 v4 v5 v6 v7 => iterK n (codeK Tryd.prog (ERRead) 40 blpRRead_13) (head (ERRead) 13) ⟨[(4, qI v1), (5, qI v2), (7, qI v3), (8, qI v4), (9, qI v5), (10, qI v6), (11, qI v7)], []⟩ k) (clpRRead_13_0 k) v1 v2 v3 v4 v5 v6 v7 := by kernel_rfl
theorem lpRRead_13_eq (k : KT) : ∀ (n : Nat), ∀ (v1 v2 v3 v4 v5 v6 v7 : Int), iterK n (codeK Tryd.prog (ERRead) 40 blpRRead_13) (head (ERRead) 13) ⟨[(4, qI v1), (5, qI v2), (7, qI v3), (8, qI v4), (9, qI v5), (10, qI v6), (11, qI v7)], []⟩ k = lpRRead_13 (clpRRead_13_0 k) n v1 v2 v3 v4 v5 v6 v7
 | 0 => by intros; rfl
 | n + 1 => by
  intros
  rw [lpRRead_13_step]
  have ih := lpRRead_13_eq k n
  simp only [lpRRead_13, ih]
theorem LRRead_13_ok : ∀ (σ : St) (k : KT) (r : Out), LRRead_13 σ k = some r -> ∃ n, iterK n (codeK Tryd.prog (ERRead) 40 blpRRead_13) (head (ERRead) 13) σ k = some r := by
 intro σ k r h
 unfold LRRead_13 at h
 split at h
 ·replace h := cond_some h
  obtain ⟨hc, h⟩ := h
  simp only [Bool.and_eq_true, beq_prop, decide_eq_true_eq, Bool.not_eq_true'] at hc
  obtain ⟨⟨⟨⟨⟨⟨rfl, rfl⟩, rfl⟩, rfl⟩, rfl⟩, rfl⟩, rfl⟩ := hc
  rw [shut_eq] at h
  exact ⟨FUEL, (lpRRead_13_eq k FUEL _ _ _ _ _ _ _ ).trans h⟩
 ·cases h
theorem loopsRRead : ∀ c, Tryd.f86.body = some c -> LoopsOk Tryd.prog (ERRead) 40 c := by
 intro c hc
 cases hc
 exact ⟨trivial, ⟨noneL_ok _ (by kernel_rfl), ⟨trivial, ⟨trivial, ⟨trivial, ⟨trivial, ⟨trivial, ⟨trivial, ⟨noneL_ok _ (by kernel_rfl), ⟨trivial, ⟨⟨trivial, ⟨noneL_ok _ (by kernel_rfl), lp_some rfl (LRRead_13_ok)⟩, jn_none rfl⟩, ⟨trivial, trivial, jn_none rfl⟩, jn_none rfl⟩, jn_none rfl⟩, jn_none rfl⟩, jn_none rfl⟩, jn_none rfl⟩, jn_none rfl⟩, jn_none rfl⟩, jn_none rfl⟩, jn_none rfl⟩, jn_none rfl⟩, jn_none rfl⟩
noncomputable def gRRead (s : ByteArray) : OO :=
 cond (!decide (((s.size : Nat) : Int) = 15)) (
 some (.ret [.cl (.int .i64 0), .cl (.int .i64 1)] []))
 (
 cond (decide ((14 : Int) < ((s.size : Nat) : Int))) (
 let x1 : Int := bget s 14
 cond (!decide (x1 = 90)) (
 some (.ret [.cl (.int .i64 0), .cl (.int .i64 1)] []))
 (
 cond (decide ((4 : Int) <= ((s.size : Nat) : Int))) (
 let s2 : ByteArray := s.extract 0 4
 cond (decide (s2.size <= 18)) (
 let r3 : Int := stNumber s2
 cond (decide ((6 : Int) <= ((s.size : Nat) : Int))) (
 let s4 : ByteArray := s.extract 4 6
 cond (decide (s4.size <= 18)) (
 let r5 : Int := stNumber s4
 cond (decide ((8 : Int) <= ((s.size : Nat) : Int))) (
 let s6 : ByteArray := s.extract 6 8
 cond (decide (s6.size <= 18)) (
 let r7 : Int := stNumber s6
 cond (decide ((10 : Int) <= ((s.size : Nat) : Int))) (
 let s8 : ByteArray := s.extract 8 10
 cond (decide (s8.size <= 18)) (
 let r9 : Int := stNumber s8
 cond (decide ((12 : Int) <= ((s.size : Nat) : Int))) (
 let s10 : ByteArray := s.extract 10 12
 cond (decide (s10.size <= 18)) (
 let r11 : Int := stNumber s10
 cond (decide ((14 : Int) <= ((s.size : Nat) : Int))) (
 let s12 : ByteArray := s.extract 12 14
 cond (decide (s12.size <= 18)) (
 let r13 : Int := stNumber s12
 cond (decide (r7 < 1)) (
 some (.ret [.cl (.int .i64 0), .cl (.int .i64 1)] []))
 (
 let r14 : Int := stMonth r3 r5
 cond (decide (r14 < r7)) (
 some (.ret [.cl (.int .i64 0), .cl (.int .i64 1)] []))
 (
 cond (decide (r9 < 0)) (
 some (.ret [.cl (.int .i64 0), .cl (.int .i64 1)] []))
 (
 cond (decide ((23 : Int) < r9)) (
 some (.ret [.cl (.int .i64 0), .cl (.int .i64 1)] []))
 (
 cond (decide (r11 < 0)) (
 some (.ret [.cl (.int .i64 0), .cl (.int .i64 1)] []))
 (
 cond (decide ((59 : Int) < r11)) (
 some (.ret [.cl (.int .i64 0), .cl (.int .i64 1)] []))
 (
 cond (decide (r13 < 0)) (
 some (.ret [.cl (.int .i64 0), .cl (.int .i64 1)] []))
 (
 cond (decide ((59 : Int) < r13)) (
 some (.ret [.cl (.int .i64 0), .cl (.int .i64 1)] []))
 (
 cond (stOk r3) (
 let r15 : Int := stYears r3
 let x16 : Int := IntKind.i64.wrap (r7 - 1)
 let x17 : Int := IntKind.i64.wrap (r15 + x16)
 shut (lpRRead_13
 (fun y18 y19 y20 y21 y22 y23 y24 y25 y26 =>
 let x27 : Int := IntKind.i64.wrap (y23 * 86400)
 let x28 : Int := IntKind.i64.wrap (((-62135596800) : Int) + x27)
 let x29 : Int := IntKind.i64.wrap (y20 * 3600)
 let x30 : Int := IntKind.i64.wrap (y21 * 60)
 let x31 : Int := IntKind.i64.wrap (x29 + x30)
 let x32 : Int := IntKind.i64.wrap (x31 + y22)
 let x33 : Int := IntKind.i64.wrap (x28 + x32)
 some (.ret [.cl (.int .i64 x33), .cl (.int .i64 0)] []))
 FUEL) r3 r5 r9 r11 r13 x17 1) none))))))))) none) none) none) none) none) none) none) none) none) none) none) none)) none)
theorem gRRead_eq (s : ByteArray) : bodyK Tryd.prog (ERRead) 40 false Tryd.f86 [.cl (.str s)] [] = gRRead s := by kernel_rfl

noncomputable def EDBoxed : Env := {
 orc := fun _ => fun _ _ => Tree.fail
 pre := fun _ => fun _ _ => true
 glob := glVal
 nt := 17
}
theorem loopsDBoxed : ∀ c, Tryd.f100.body = some c -> LoopsOk Tryd.prog (EDBoxed) 40 c := by
 intro c hc
 cases hc
 exact noneL_ok _ (by kernel_rfl)
noncomputable def gDBoxed (tag : Int) : OO :=
 cond (decide (tag = 48)) (
 some (.ret [.cl (.bool true)] []))
 (
 cond (decide (tag = 49)) (
 some (.ret [.cl (.bool true)] []))
 (
 cond (decide ((160 : Int) <= tag)) (
 some (.ret [.cl (.bool (decide (tag <= 190)))] []))
 (
 some (.ret [.cl (.bool false)] []))))
theorem gDBoxed_eq (tag : Int) : bodyK Tryd.prog (EDBoxed) 40 false Tryd.f100 [.cl (.int .i64 tag)] [] = gDBoxed tag := by kernel_rfl

noncomputable def ERBoxed : Env := {
 orc := fun _ => fun _ _ => Tree.fail
 pre := fun _ => fun _ _ => true
 glob := glVal
 nt := 17
}
theorem loopsRBoxed : ∀ c, Tryd.f101.body = some c -> LoopsOk Tryd.prog (ERBoxed) 40 c := by
 intro c hc
 cases hc
 exact noneL_ok _ (by kernel_rfl)
noncomputable def gRBoxed (tag : Int) : OO :=
 cond (decide (tag = 48)) (
 some (.ret [.cl (.bool true)] []))
 (
 cond (decide (tag = 49)) (
 some (.ret [.cl (.bool true)] []))
 (
 cond (decide ((160 : Int) <= tag)) (
 some (.ret [.cl (.bool (decide (tag <= 190)))] []))
 (
 some (.ret [.cl (.bool false)] []))))
theorem gRBoxed_eq (tag : Int) : bodyK Tryd.prog (ERBoxed) 40 false Tryd.f101 [.cl (.int .i64 tag)] [] = gRBoxed tag := by kernel_rfl

noncomputable def EDKnown : Env := {
 orc := fun g => cond (Nat.beq g 100) SDBoxed (fun _ _ => Tree.fail)
 pre := fun g => cond (Nat.beq g 100) preDBoxed (fun _ _ => true)
 glob := glVal
 nt := 23
}
theorem loopsDKnown : ∀ c, Tryd.f146.body = some c -> LoopsOk Tryd.prog (EDKnown) 40 c := by
 intro c hc
 cases hc
 exact noneL_ok _ (by kernel_rfl)
noncomputable def gDKnown (tag : Int) : OO :=
 cond (decide (tag = 1)) (
 some (.ret [.cl (.bool true)] []))
 (
 cond (decide (tag = 2)) (
 some (.ret [.cl (.bool true)] []))
 (
 cond (decide (tag = 3)) (
 some (.ret [.cl (.bool true)] []))
 (
 cond (decide (tag = 4)) (
 some (.ret [.cl (.bool true)] []))
 (
 cond (decide (tag = 5)) (
 some (.ret [.cl (.bool true)] []))
 (
 cond (decide (tag = 6)) (
 some (.ret [.cl (.bool true)] []))
 (
 cond (decide (tag = 12)) (
 some (.ret [.cl (.bool true)] []))
 (
 cond (decide (tag = 24)) (
 some (.ret [.cl (.bool true)] []))
 (
 let r1 : Bool := derBoxed tag
 cond (r1) (
 some (.ret [.cl (.bool true)] []))
 (
 cond (decide ((128 : Int) <= tag)) (
 some (.ret [.cl (.bool (decide (tag <= 158)))] []))
 (
 some (.ret [.cl (.bool false)] [])))))))))))
theorem gDKnown_eq (tag : Int) : bodyK Tryd.prog (EDKnown) 40 false Tryd.f146 [.cl (.int .i64 tag)] [] = gDKnown tag := by kernel_rfl

noncomputable def ERTagged : Env := {
 orc := fun g => cond (Nat.beq g 101) SRBoxed (fun _ _ => Tree.fail)
 pre := fun g => cond (Nat.beq g 101) preRBoxed (fun _ _ => true)
 glob := glVal
 nt := 23
}
theorem loopsRTagged : ∀ c, Tryd.f142.body = some c -> LoopsOk Tryd.prog (ERTagged) 40 c := by
 intro c hc
 cases hc
 exact noneL_ok _ (by kernel_rfl)
noncomputable def gRTagged (tag : Int) : OO :=
 cond (decide (tag = 1)) (
 some (.ret [.cl (.bool true)] []))
 (
 cond (decide (tag = 2)) (
 some (.ret [.cl (.bool true)] []))
 (
 cond (decide (tag = 3)) (
 some (.ret [.cl (.bool true)] []))
 (
 cond (decide (tag = 4)) (
 some (.ret [.cl (.bool true)] []))
 (
 cond (decide (tag = 5)) (
 some (.ret [.cl (.bool true)] []))
 (
 cond (decide (tag = 6)) (
 some (.ret [.cl (.bool true)] []))
 (
 cond (decide (tag = 12)) (
 some (.ret [.cl (.bool true)] []))
 (
 cond (decide (tag = 24)) (
 some (.ret [.cl (.bool true)] []))
 (
 let r1 : Bool := derBoxed tag
 cond (r1) (
 some (.ret [.cl (.bool true)] []))
 (
 cond (decide ((128 : Int) <= tag)) (
 some (.ret [.cl (.bool (decide (tag <= 158)))] []))
 (
 some (.ret [.cl (.bool false)] [])))))))))))
theorem gRTagged_eq (tag : Int) : bodyK Tryd.prog (ERTagged) 40 false Tryd.f142 [.cl (.int .i64 tag)] [] = gRTagged tag := by kernel_rfl

noncomputable def EDLenSize : Env := {
 orc := fun _ => fun _ _ => Tree.fail
 pre := fun _ => fun _ _ => true
 glob := glVal
 nt := 12
}
theorem loopsDLenSize : ∀ c, Tryd.f148.body = some c -> LoopsOk Tryd.prog (EDLenSize) 40 c := by
 intro c hc
 cases hc
 exact noneL_ok _ (by kernel_rfl)
noncomputable def gDLenSize (n : Int) : OO :=
 cond (decide (n < 128)) (
 some (.ret [.cl (.int .i64 1)] []))
 (
 cond (decide (n < 256)) (
 some (.ret [.cl (.int .i64 2)] []))
 (
 cond (decide (n < 65536)) (
 some (.ret [.cl (.int .i64 3)] []))
 (
 some (.ret [.cl (.int .i64 4)] []))))
theorem gDLenSize_eq (n : Int) : bodyK Tryd.prog (EDLenSize) 40 false Tryd.f148 [.cl (.int .i64 n)] [] = gDLenSize n := by kernel_rfl

noncomputable def EDNumber : Env := {
 orc := fun _ => fun _ _ => Tree.fail
 pre := fun _ => fun _ _ => true
 glob := glVal
 nt := 27
}
theorem loopsDNumber : ∀ c, Tryd.f159.body = some c -> LoopsOk Tryd.prog (EDNumber) 40 c := by
 intro c hc
 cases hc
 exact noneL_ok _ (by kernel_rfl)
noncomputable def gDNumber (b : LI) : OO :=
 cond (decide (((b.length : Nat) : Int) < 2)) (
 some (.ret [.cl (.bool (decide (((b.length : Nat) : Int) = 1)))] []))
 (
 cond (decide ((0 : Int) < ((b.length : Nat) : Int))) (
 Option.bind (b[0]?) fun (e1 : Int) =>
 let x2 : Int := IntKind.u64.wrap e1
 let x3 : Int := IntKind.u64.wrap (x2 * 2 ^ 1)
 cond (decide ((1 : Int) < ((b.length : Nat) : Int))) (
 Option.bind (b[1]?) fun (e4 : Int) =>
 let x5 : Int := IntKind.u64.wrap e4
 let x6 : Int := Int.fdiv x5 (2 ^ 7)
 let x7 : Int := IntKind.u64.wrap ((BitVec.ofInt 64 x3 ||| BitVec.ofInt 64 x6).toNat)
 cond (!decide (x7 = 0)) (
 some (.ret [.cl (.bool (!decide (x7 = 511)))] []))
 (
 some (.ret [.cl (.bool false)] []))) none) none)
theorem gDNumber_eq (b : LI) : bodyK Tryd.prog (EDNumber) 40 false Tryd.f159 [.cl (.sli .u8 b)] [] = gDNumber b := by kernel_rfl

noncomputable def ERFitInt : Env := {
 orc := fun _ => fun _ _ => Tree.fail
 pre := fun _ => fun _ _ => true
 glob := glVal
 nt := 33
}
theorem loopsRFitInt : ∀ c, Tryd.f139.body = some c -> LoopsOk Tryd.prog (ERFitInt) 40 c := by
 intro c hc
 cases hc
 exact noneL_ok _ (by kernel_rfl)
noncomputable def gRFitInt (b : LI) : OO :=
 cond (decide (((b.length : Nat) : Int) < 2)) (
 some (.ret [.cl (.bool (decide (((b.length : Nat) : Int) = 1)))] []))
 (
 cond (decide ((0 : Int) < ((b.length : Nat) : Int))) (
 Option.bind (b[0]?) fun (e1 : Int) =>
 cond (decide (e1 = 0)) (
 cond (decide ((1 : Int) < ((b.length : Nat) : Int))) (
 Option.bind (b[1]?) fun (e2 : Int) =>
 cond (!(decide (e2 < 128))) (
 cond (decide ((0 : Int) < ((b.length : Nat) : Int))) (
 Option.bind (b[0]?) fun (e3 : Int) =>
 cond (decide (e3 = 255)) (
 cond (decide ((1 : Int) < ((b.length : Nat) : Int))) (
 Option.bind (b[1]?) fun (e4 : Int) =>
 some (.ret [.cl (.bool (!(decide ((128 : Int) <= e4))))] [])) none)
 (
 some (.ret [.cl (.bool true)] []))) none)
 (
 some (.ret [.cl (.bool false)] []))) none)
 (
 cond (decide ((0 : Int) < ((b.length : Nat) : Int))) (
 Option.bind (b[0]?) fun (e5 : Int) =>
 cond (decide (e5 = 255)) (
 cond (decide ((1 : Int) < ((b.length : Nat) : Int))) (
 Option.bind (b[1]?) fun (e6 : Int) =>
 some (.ret [.cl (.bool (!(decide ((128 : Int) <= e6))))] [])) none)
 (
 some (.ret [.cl (.bool true)] []))) none)) none)
theorem gRFitInt_eq (b : LI) : bodyK Tryd.prog (ERFitInt) 40 false Tryd.f139 [.cl (.sli .u8 b)] [] = gRFitInt b := by kernel_rfl

noncomputable def EDStrip : Env := {
 orc := fun _ => fun _ _ => Tree.fail
 pre := fun _ => fun _ _ => true
 glob := glVal
 nt := 32
}
theorem loopsDStrip : ∀ c, Tryd.f160.body = some c -> LoopsOk Tryd.prog (EDStrip) 40 c := by
 intro c hc
 cases hc
 exact noneL_ok _ (by kernel_rfl)
noncomputable def gDStrip (b : LI) : OO :=
 cond (decide (((b.length : Nat) : Int) = 0)) (
 some (.ret [.cl (.bool false)] []))
 (
 cond (decide ((0 : Int) < ((b.length : Nat) : Int))) (
 Option.bind (b[0]?) fun (e1 : Int) =>
 cond (decide ((7 : Int) < e1)) (
 some (.ret [.cl (.bool false)] []))
 (
 cond (decide (((b.length : Nat) : Int) = 1)) (
 cond (decide ((0 : Int) < ((b.length : Nat) : Int))) (
 Option.bind (b[0]?) fun (e2 : Int) =>
 some (.ret [.cl (.bool (decide (e2 = 0)))] [])) none)
 (
 let x3 : Int := IntKind.i64.wrap (((b.length : Nat) : Int) - 1)
 cond (decide ((0 : Int) <= x3)) (
 cond (decide (x3 < ((b.length : Nat) : Int))) (
 Option.bind (b[(Int.toNat x3)]?) fun (e4 : Int) =>
 cond (decide ((0 : Int) < ((b.length : Nat) : Int))) (
 Option.bind (b[0]?) fun (e5 : Int) =>
 cond (decide (e5 < 0)) none (
 let x6 : Int := IntKind.u8.wrap (1 * 2 ^ (min e5.toNat 8))
 let x7 : Int := IntKind.u8.wrap (x6 - 1)
 let x8 : Int := IntKind.u8.wrap ((BitVec.ofInt 8 e4 &&& BitVec.ofInt 8 x7).toNat)
 some (.ret [.cl (.bool (decide (x8 = 0)))] []))) none) none) none))) none)
theorem gDStrip_eq (b : LI) : bodyK Tryd.prog (EDStrip) 40 false Tryd.f160 [.cl (.sli .u8 b)] [] = gDStrip b := by kernel_rfl

noncomputable def ERFitBits : Env := {
 orc := fun _ => fun _ _ => Tree.fail
 pre := fun _ => fun _ _ => true
 glob := glVal
 nt := 31
}
theorem loopsRFitBits : ∀ c, Tryd.f140.body = some c -> LoopsOk Tryd.prog (ERFitBits) 40 c := by
 intro c hc
 cases hc
 exact noneL_ok _ (by kernel_rfl)
noncomputable def gRFitBits (b : LI) : OO :=
 cond (decide (((b.length : Nat) : Int) = 0)) (
 some (.ret [.cl (.bool false)] []))
 (
 cond (decide ((0 : Int) < ((b.length : Nat) : Int))) (
 Option.bind (b[0]?) fun (e1 : Int) =>
 cond (decide ((7 : Int) < e1)) (
 some (.ret [.cl (.bool false)] []))
 (
 cond (decide (((b.length : Nat) : Int) = 1)) (
 cond (decide ((0 : Int) < ((b.length : Nat) : Int))) (
 Option.bind (b[0]?) fun (e2 : Int) =>
 some (.ret [.cl (.bool (decide (e2 = 0)))] [])) none)
 (
 let x3 : Int := IntKind.i64.wrap (((b.length : Nat) : Int) - 1)
 cond (decide ((0 : Int) <= x3)) (
 cond (decide (x3 < ((b.length : Nat) : Int))) (
 Option.bind (b[(Int.toNat x3)]?) fun (e4 : Int) =>
 cond (decide ((0 : Int) < ((b.length : Nat) : Int))) (
 Option.bind (b[0]?) fun (e5 : Int) =>
 cond (decide (e5 < 0)) none (
 let x6 : Int := IntKind.u8.wrap (1 * 2 ^ (min e5.toNat 8))
 cond (decide (x6 = 0)) none (
 let x7 : Int := Int.tmod e4 x6
 some (.ret [.cl (.bool (decide (x7 = 0)))] [])))) none) none) none))) none)
theorem gRFitBits_eq (b : LI) : bodyK Tryd.prog (ERFitBits) 40 false Tryd.f140 [.cl (.sli .u8 b)] [] = gRFitBits b := by kernel_rfl

noncomputable def ERCont : Env := {
 orc := fun _ => fun _ _ => Tree.fail
 pre := fun _ => fun _ _ => true
 glob := glVal
 nt := 17
}
theorem loopsRCont : ∀ c, Tryd.f167.body = some c -> LoopsOk Tryd.prog (ERCont) 40 c := by
 intro c hc
 cases hc
 exact noneL_ok _ (by kernel_rfl)
noncomputable def gRCont (b : LI) (i : Int) : OO :=
 cond (decide (i < ((b.length : Nat) : Int))) (
 cond (decide ((0 : Int) <= i)) (
 cond (decide (i < ((b.length : Nat) : Int))) (
 Option.bind (b[(Int.toNat i)]?) fun (e1 : Int) =>
 let x2 : Int := Int.fdiv e1 (2 ^ 6)
 some (.ret [.cl (.bool (decide (x2 = 2)))] [])) none) none)
 (
 some (.ret [.cl (.bool false)] []))
theorem gRCont_eq (b : LI) (i : Int) : bodyK Tryd.prog (ERCont) 40 false Tryd.f167 [.cl (.sli .u8 b), .cl (.int .i64 i)] [] = gRCont b i := by kernel_rfl

noncomputable def jnRRune_10 (k0 : OO) (k1 : OO) (v1 : LI) (v2 v3 : Int) (v4 : Bool) : OO :=
 cond (decide ((240 : Int) <= v3)) (
 cond (decide (v3 <= 244)) (
 cond (v4) (
 let x8 : Int := IntKind.i64.wrap (v2 + 3)
 cond (decide (0 <= x8)) (
 let r9 : Bool := u8Cont v1 x8
 cond (r9) (
 cond (!decide (v3 = 240)) (
 cond (!decide (v3 = 244)) (
 k0)
 (
 let x10 : Int := IntKind.i64.wrap (v2 + 1)
 getK v1 x10 fun e11 =>
 cond (decide (e11 < 144)) (
 k0)
 (
 k1)))
 (
 let x12 : Int := IntKind.i64.wrap (v2 + 1)
 getK v1 x12 fun e13 =>
 cond (decide ((144 : Int) <= e13)) (
 cond (!decide (v3 = 244)) (
 k0)
 (
 let x14 : Int := IntKind.i64.wrap (v2 + 1)
 getK v1 x14 fun e15 =>
 cond (decide (e15 < 144)) (
 k0)
 (
 k1)))
 (
 k1)))
 (
 k1)) none)
 (
 k1))
 (
 k1))
 (
 k1)
noncomputable def jnRRune_8 (k0 : OO) (k1 : OO) (k2 : OO) (v1 : LI) (v2 v3 : Int) (v4 : Bool) : OO :=
 cond (decide ((224 : Int) <= v3)) (
 cond (decide (v3 <= 239)) (
 cond (v4) (
 cond (!decide (v3 = 224)) (
 cond (!decide (v3 = 237)) (
 k0)
 (
 let x6 : Int := IntKind.i64.wrap (v2 + 1)
 getK v1 x6 fun e7 =>
 cond (decide (e7 < 160)) (
 k0)
 (
 shut (jnRRune_10
 (
 k1)
 (
 k2)) v1 v2 v3 v4)))
 (
 let x8 : Int := IntKind.i64.wrap (v2 + 1)
 getK v1 x8 fun e9 =>
 cond (decide ((160 : Int) <= e9)) (
 cond (!decide (v3 = 237)) (
 k0)
 (
 let x10 : Int := IntKind.i64.wrap (v2 + 1)
 getK v1 x10 fun e11 =>
 cond (decide (e11 < 160)) (
 k0)
 (
 shut (jnRRune_10
 (
 k1)
 (
 k2)) v1 v2 v3 v4)))
 (
 shut (jnRRune_10
 (
 k1)
 (
 k2)) v1 v2 v3 v4)))
 (
 shut (jnRRune_10
 (
 k1)
 (
 k2)) v1 v2 v3 v4))
 (
 shut (jnRRune_10
 (
 k1)
 (
 k2)) v1 v2 v3 v4))
 (
 shut (jnRRune_10
 (
 k1)
 (
 k2)) v1 v2 v3 v4)
noncomputable def JRRune_8 : St -> (KT) -> OO := fun σ k => match σ with
 | ⟨[(q1, .cl (.sli .u8 v1)), (q2, .cl (.int .i64 v2)), (q3, .cl (.int .u8 v3)), (q4, .cl (.bool v4))], []⟩ => cond (Nat.beq q1 0 && Nat.beq q2 1 && Nat.beq q3 5 && Nat.beq q4 7) (shut (jnRRune_8 (k .ret ⟨[(4, .cl (.int .i64 3))], []⟩) (k .ret ⟨[(4, .cl (.int .i64 4))], []⟩) (k .normal ⟨[], []⟩)) v1 v2 v3 v4) none
 | _ => none
noncomputable def JRRune_10 : St -> (KT) -> OO := fun σ k => match σ with
 | ⟨[(q1, .cl (.sli .u8 v1)), (q2, .cl (.int .i64 v2)), (q3, .cl (.int .u8 v3)), (q4, .cl (.bool v4))], []⟩ => cond (Nat.beq q1 0 && Nat.beq q2 1 && Nat.beq q3 5 && Nat.beq q4 7) (shut (jnRRune_10 (k .ret ⟨[(4, .cl (.int .i64 4))], []⟩) (k .normal ⟨[], []⟩)) v1 v2 v3 v4) none
 | _ => none
noncomputable def ERRune : Env := {
 orc := fun g => cond (Nat.beq g 167) SRCont (fun _ _ => Tree.fail)
 pre := fun g => cond (Nat.beq g 167) preRCont (fun _ _ => true)
 live := fun r => cond (Nat.beq r 8) ([0, 1, 5, 7]) (cond (Nat.beq r 10) ([0, 1, 5, 7]) ([]))
 glob := glVal
 nt := 110
 xl := fun r => cond (Nat.beq r 0) (some [4]) (cond (Nat.beq r 1008) (some []) (cond (Nat.beq r 1010) (some []) (none)))
 jn := fun r => cond (Nat.beq r 8) (some (JRRune_8)) (cond (Nat.beq r 10) (some (JRRune_10)) (none))
}
noncomputable def bjnRRune_8 : Code := (Cd.snd (Cd.snd (Cd.snd (Cd.snd (Cd.fst (Cd.fst (Cd.snd (Cd.snd (Cd.snd (Cd.snd (Tryd.f158.body.getD .skip)))))))))))
theorem JRRune_8_ok : JnOk Tryd.prog (ERRune) 40 bjnRRune_8 8 JRRune_8 := by
 intro σ k r h
 unfold JRRune_8 at h
 split at h
 ·replace h := cond_some h
  obtain ⟨hc, h⟩ := h
  simp only [Bool.and_eq_true, beq_prop, decide_eq_true_eq, Bool.not_eq_true'] at hc
  obtain ⟨⟨⟨rfl, rfl⟩, rfl⟩, rfl⟩ := hc
  rw [shut_eq] at h
  exact Eq.trans (by kernel_rfl) h
 ·cases h
noncomputable def bjnRRune_10 : Code := (Cd.snd (Cd.snd (Cd.snd (Cd.snd (Cd.snd (Cd.snd (Cd.fst (Cd.fst (Cd.snd (Cd.snd (Cd.snd (Cd.snd (Tryd.f158.body.getD .skip)))))))))))))
theorem JRRune_10_ok : JnOk Tryd.prog (ERRune) 40 bjnRRune_10 10 JRRune_10 := by
 intro σ k r h
 unfold JRRune_10 at h
 split at h
 ·replace h := cond_some h
  obtain ⟨hc, h⟩ := h
  simp only [Bool.and_eq_true, beq_prop, decide_eq_true_eq, Bool.not_eq_true'] at hc
  obtain ⟨⟨⟨rfl, rfl⟩, rfl⟩, rfl⟩ := hc
  rw [shut_eq] at h
  exact Eq.trans (by kernel_rfl) h
 ·cases h
theorem loopsRRune : ∀ c, Tryd.f158.body = some c -> LoopsOk Tryd.prog (ERRune) 40 c := by
 intro c hc
 cases hc
 exact ⟨trivial, ⟨trivial, ⟨trivial, ⟨trivial, ⟨⟨trivial, ⟨⟨trivial, trivial, jn_none rfl⟩, ⟨trivial, ⟨⟨trivial, trivial, jn_none rfl⟩, ⟨trivial, ⟨⟨trivial, trivial, jn_none rfl⟩, noneL_ok _ (by kernel_rfl), jn_some rfl (JRRune_10_ok)⟩, jn_none rfl⟩, jn_some rfl (JRRune_8_ok)⟩, jn_none rfl⟩, jn_none rfl⟩, jn_none rfl⟩, ⟨trivial, trivial, jn_none rfl⟩, jn_none rfl⟩, jn_none rfl⟩, jn_none rfl⟩, jn_none rfl⟩, jn_none rfl⟩
noncomputable def gRRune (b : LI) (i : Int) : OO :=
 getK b i fun e1 =>
 let x2 : Int := IntKind.i64.wrap (i + 1)
 cond (decide (0 <= x2)) (
 let r3 : Bool := u8Cont b x2
 cond (r3) (
 let x4 : Int := IntKind.i64.wrap (i + 2)
 cond (decide (0 <= x4)) (
 let r5 : Bool := u8Cont b x4
 cond (decide (e1 < 128)) (
 some (.ret [.cl (.int .i64 1)] []))
 (
 cond (decide ((194 : Int) <= e1)) (
 cond (decide (e1 <= 223)) (
 cond (r3) (
 some (.ret [.cl (.int .i64 2)] []))
 (
 shut (jnRRune_8
 (
 some (.ret [.cl (.int .i64 3)] []))
 (
 some (.ret [.cl (.int .i64 4)] []))
 (
 some (.ret [.cl (.int .i64 0)] []))) b i e1 r5))
 (
 shut (jnRRune_8
 (
 some (.ret [.cl (.int .i64 3)] []))
 (
 some (.ret [.cl (.int .i64 4)] []))
 (
 some (.ret [.cl (.int .i64 0)] []))) b i e1 r5))
 (
 shut (jnRRune_8
 (
 some (.ret [.cl (.int .i64 3)] []))
 (
 some (.ret [.cl (.int .i64 4)] []))
 (
 some (.ret [.cl (.int .i64 0)] []))) b i e1 r5))) none)
 (
 cond (decide (e1 < 128)) (
 some (.ret [.cl (.int .i64 1)] []))
 (
 cond (decide ((194 : Int) <= e1)) (
 cond (decide (e1 <= 223)) (
 cond (r3) (
 some (.ret [.cl (.int .i64 2)] []))
 (
 shut (jnRRune_8
 (
 some (.ret [.cl (.int .i64 3)] []))
 (
 some (.ret [.cl (.int .i64 4)] []))
 (
 some (.ret [.cl (.int .i64 0)] []))) b i e1 false))
 (
 shut (jnRRune_8
 (
 some (.ret [.cl (.int .i64 3)] []))
 (
 some (.ret [.cl (.int .i64 4)] []))
 (
 some (.ret [.cl (.int .i64 0)] []))) b i e1 false))
 (
 shut (jnRRune_8
 (
 some (.ret [.cl (.int .i64 3)] []))
 (
 some (.ret [.cl (.int .i64 4)] []))
 (
 some (.ret [.cl (.int .i64 0)] []))) b i e1 false)))) none
theorem gRRune_eq (b : LI) (i : Int) : bodyK Tryd.prog (ERRune) 40 false Tryd.f158 [.cl (.sli .u8 b), .cl (.int .i64 i)] [] = gRRune b i := by kernel_rfl

abbrev zRUtf80 := LI -> Int -> Int -> Int -> LI -> Int -> LI -> Int -> Int -> Int -> OO
abbrev zRUtf81 := LI -> Int -> Int -> LI -> Int -> OO
noncomputable def lpRUtf8_2s (again : LI -> Int -> OO) (k0 : zRUtf80) (k1 : zRUtf81) (v1 : LI) (v2 : Int) : OO :=
 cond (decide (v2 < ((v1.length : Nat) : Int))) (
 cond (bytesOk v1 && decide (0 <= v2 /\ v2 < v1.length)) (
 let r1 : Int := u8Rune v1 v2
 cond (decide (r1 = 0)) (
 k0 v1 v2 r1 v2 v1 ((v1.length : Nat) : Int) v1 v2 r1 r1)
 (
 let x2 : Int := IntKind.i64.wrap (v2 + r1)
 again v1 x2)) none)
 (
 k1 v1 v2 v2 v1 ((v1.length : Nat) : Int))
noncomputable def lpRUtf8_2 (k0 : zRUtf80) (k1 : zRUtf81) : Nat -> LI -> Int -> OO
 | 0 => fun _ _ => none
 | n + 1 => lpRUtf8_2s (lpRUtf8_2 k0 k1 n) k0 k1
noncomputable def clpRUtf8_2_0 (k : KT) : zRUtf80 := fun y1 y2 y3 y4 y5 y6 y7 y8 y9 y10 => k .ret ⟨[(0, qS y1), (2, qB false), (3, qI y2), (4, qI y3), (5, qI y4), (6, qS y5), (7, qI y6), (8, qB true), (9, qS y7), (10, qI y8), (11, qI y9), (12, qI y10), (13, qB true)], []⟩
noncomputable def clpRUtf8_2_1 (k : KT) : zRUtf81 := fun y1 y2 y3 y4 y5 => k (.exit 0) ⟨[(0, qS y1), (3, qI y2), (5, qI y3), (6, qS y4), (7, qI y5), (8, qB false)], []⟩
noncomputable def LRUtf8_2 : St -> (KT) -> OO := fun σ k => match σ with
 | ⟨[(q1, .cl (.sli .u8 v1)), (q2, .cl (.int .i64 v2))], []⟩ => cond (Nat.beq q1 0 && Nat.beq q2 3) (shut (lpRUtf8_2 (clpRUtf8_2_0 k) (clpRUtf8_2_1 k) FUEL) v1 v2) none
 | _ => none
noncomputable def ERUtf8 : Env := {
 orc := fun g => cond (Nat.beq g 158) SRRune (fun _ _ => Tree.fail)
 pre := fun g => cond (Nat.beq g 158) preRRune (fun _ _ => true)
 live := fun r => cond (Nat.beq r 2) ([0, 3]) ([])
 glob := glVal
 nt := 17
 lp := fun r => cond (Nat.beq r 2) (some (LRUtf8_2)) (none)
}
noncomputable def blpRUtf8_2 : Code := (Cd.fst (Cd.fst (Cd.snd (Cd.fst (Cd.snd (Tryd.f141.body.getD .skip))))))
theorem lpRUtf8_2_step (k : KT) (n : Nat) (v1 : LI) (v2 : Int) : iterK (n + 1) (codeK Tryd.prog (ERUtf8) 40 blpRUtf8_2) (head (ERUtf8) 2) ⟨[(0, qS v1), (3, qI v2)], []⟩ k = lpRUtf8_2s (fun v1 v2 => iterK n (codeK Tryd.prog (ERUtf8) 40 blpRUtf8_2) (head (ERUtf8) 2) ⟨[(0, qS v1), (3, qI v2)], []⟩ k) (clpRUtf8_2_0 k) (clpRUtf8_2_1 k) v1 v2 := by kernel_rfl
theorem lpRUtf8_2_eq (k : KT) : ∀ (n : Nat), ∀ (v1 : LI) (v2 : Int), iterK n (codeK Tryd.prog (ERUtf8) 40 blpRUtf8_2) (head (ERUtf8) 2) ⟨[(0, qS v1), (3, qI v2)], []⟩ k = lpRUtf8_2 (clpRUtf8_2_0 k) (clpRUtf8_2_1 k) n v1 v2
 | 0 => by intros; rfl
 | n + 1 => by
  intros
  rw [lpRUtf8_2_step]
  have ih := lpRUtf8_2_eq k n
  simp only [lpRUtf8_2, ih]
theorem LRUtf8_2_ok : ∀ (σ : St) (k : KT) (r : Out), LRUtf8_2 σ k = some r -> ∃ n, iterK n (codeK Tryd.prog (ERUtf8) 40 blpRUtf8_2) (head (ERUtf8) 2) σ k = some r := by
 intro σ k r h
 unfold LRUtf8_2 at h
 split at h
 ·replace h := cond_some h
  obtain ⟨hc, h⟩ := h
  simp only [Bool.and_eq_true, beq_prop, decide_eq_true_eq, Bool.not_eq_true'] at hc
  obtain ⟨rfl, rfl⟩ := hc
  rw [shut_eq] at h
  exact ⟨FUEL, (lpRUtf8_2_eq k FUEL _ _ ).trans h⟩
 ·cases h
theorem loopsRUtf8 : ∀ c, Tryd.f141.body = some c -> LoopsOk Tryd.prog (ERUtf8) 40 c := by
 intro c hc
 cases hc
 exact ⟨trivial, ⟨⟨trivial, ⟨noneL_ok _ (by kernel_rfl), lp_some rfl (LRUtf8_2_ok)⟩, jn_none rfl⟩, ⟨trivial, trivial, jn_none rfl⟩, jn_none rfl⟩, jn_none rfl⟩
noncomputable def gRUtf8 (b : LI) : OO :=
 shut (lpRUtf8_2
 (fun y1 y2 y3 y4 y5 y6 y7 y8 y9 y10 =>
 some (.ret [.cl (.bool false)] []))
 (fun y11 y12 y13 y14 y15 =>
 some (.ret [.cl (.bool true)] []))
 FUEL) b 0
theorem gRUtf8_eq (b : LI) : bodyK Tryd.prog (ERUtf8) 40 false Tryd.f141 [.cl (.sli .u8 b)] [] = gRUtf8 b := by kernel_rfl

noncomputable def EOFit : Env := {
 orc := fun _ => fun _ _ => Tree.fail
 pre := fun _ => fun _ _ => true
 glob := glVal
 nt := 31
}
theorem loopsOFit : ∀ c, Tryd.f122.body = some c -> LoopsOk Tryd.prog (EOFit) 40 c := by
 intro c hc
 cases hc
 exact noneL_ok _ (by kernel_rfl)
noncomputable def gOFit (o : LI) : OO :=
 cond (decide (((o.length : Nat) : Int) < 2)) (
 some (.ret [.cl (.bool false)] []))
 (
 cond (decide ((20 : Int) < ((o.length : Nat) : Int))) (
 some (.ret [.cl (.bool false)] []))
 (
 cond (decide ((0 : Int) < ((o.length : Nat) : Int))) (
 Option.bind (o[0]?) fun (e1 : Int) =>
 cond (decide ((2 : Int) < e1)) (
 some (.ret [.cl (.bool false)] []))
 (
 cond (decide ((0 : Int) < ((o.length : Nat) : Int))) (
 Option.bind (o[0]?) fun (e2 : Int) =>
 cond (decide (e2 < 2)) (
 cond (decide ((1 : Int) < ((o.length : Nat) : Int))) (
 Option.bind (o[1]?) fun (e3 : Int) =>
 some (.ret [.cl (.bool (decide (e3 < 40)))] [])) none)
 (
 cond (decide ((1 : Int) < ((o.length : Nat) : Int))) (
 Option.bind (o[1]?) fun (e4 : Int) =>
 some (.ret [.cl (.bool (decide (e4 <= 4294967215)))] [])) none)) none)) none))
theorem gOFit_eq (o : LI) : bodyK Tryd.prog (EOFit) 40 false Tryd.f122 [.cl (.sli .u32 o)] [] = gOFit o := by kernel_rfl

noncomputable def ER2Fit : Env := {
 orc := fun _ => fun _ _ => Tree.fail
 pre := fun _ => fun _ _ => true
 glob := glVal
 nt := 39
}
theorem loopsR2Fit : ∀ c, Tryd.f124.body = some c -> LoopsOk Tryd.prog (ER2Fit) 40 c := by
 intro c hc
 cases hc
 exact noneL_ok _ (by kernel_rfl)
noncomputable def gR2Fit (o : LI) : OO :=
 cond (decide (((o.length : Nat) : Int) < 2)) (
 some (.ret [.cl (.bool false)] []))
 (
 cond (decide ((20 : Int) < ((o.length : Nat) : Int))) (
 some (.ret [.cl (.bool false)] []))
 (
 cond (decide ((0 : Int) < ((o.length : Nat) : Int))) (
 Option.bind (o[0]?) fun (e1 : Int) =>
 cond (decide ((2 : Int) < e1)) (
 some (.ret [.cl (.bool false)] []))
 (
 cond (decide ((0 : Int) < ((o.length : Nat) : Int))) (
 Option.bind (o[0]?) fun (e2 : Int) =>
 cond (decide (e2 < 2)) (
 cond (decide ((1 : Int) < ((o.length : Nat) : Int))) (
 Option.bind (o[1]?) fun (e3 : Int) =>
 cond (decide (e3 < 40)) (
 some (.ret [.cl (.bool true)] []))
 (
 cond (decide ((0 : Int) < ((o.length : Nat) : Int))) (
 Option.bind (o[0]?) fun (e4 : Int) =>
 cond (decide (e4 = 2)) (
 cond (decide ((1 : Int) < ((o.length : Nat) : Int))) (
 Option.bind (o[1]?) fun (e5 : Int) =>
 some (.ret [.cl (.bool (decide (e5 <= 4294967215)))] [])) none)
 (
 some (.ret [.cl (.bool false)] []))) none)) none)
 (
 cond (decide ((0 : Int) < ((o.length : Nat) : Int))) (
 Option.bind (o[0]?) fun (e6 : Int) =>
 cond (decide (e6 = 2)) (
 cond (decide ((1 : Int) < ((o.length : Nat) : Int))) (
 Option.bind (o[1]?) fun (e7 : Int) =>
 some (.ret [.cl (.bool (decide (e7 <= 4294967215)))] [])) none)
 (
 some (.ret [.cl (.bool false)] []))) none)) none)) none))
theorem gR2Fit_eq (o : LI) : bodyK Tryd.prog (ER2Fit) 40 false Tryd.f124 [.cl (.sli .u32 o)] [] = gR2Fit o := by kernel_rfl

noncomputable def ER2First : Env := {
 orc := fun _ => fun _ _ => Tree.fail
 pre := fun _ => fun _ _ => true
 glob := glVal
 nt := 16
}
theorem loopsR2First : ∀ c, Tryd.f123.body = some c -> LoopsOk Tryd.prog (ER2First) 40 c := by
 intro c hc
 cases hc
 exact noneL_ok _ (by kernel_rfl)
noncomputable def gR2First (n : Int) : OO :=
 cond (decide (n < 80)) (
 let x1 : Int := IntKind.u64.wrap (Int.tdiv n 40)
 let x2 : Int := IntKind.u32.wrap x1
 let x3 : Int := Int.tmod n 40
 let x4 : Int := IntKind.u32.wrap x3
 some (.ret [.cl (.sli .u32 [x2, x4])] []))
 (
 let x5 : Int := IntKind.u64.wrap (n - 80)
 let x6 : Int := IntKind.u32.wrap x5
 some (.ret [.cl (.sli .u32 [2, x6])] []))
theorem gR2First_eq (n : Int) : bodyK Tryd.prog (ER2First) 40 false Tryd.f123 [.cl (.int .u64 n)] [] = gR2First n := by kernel_rfl

abbrev zONumber0 := Int -> Int -> Int -> LI -> Int -> Int -> Int -> LI -> Nat -> Int -> Int -> Bool -> Int -> Bool -> Bool -> OO
abbrev zONumber1 := Int -> Int -> Int -> LI -> Int -> Int -> Int -> LI -> Nat -> Int -> Int -> Bool -> Int -> Bool -> Bool -> Int -> Bool -> OO
abbrev zONumber2 := Int -> Int -> Int -> Int -> Int -> LI -> Int -> Int -> Int -> LI -> Nat -> Int -> Int -> Bool -> Int -> Bool -> Bool -> Int -> Bool -> Int -> Int -> Int -> Int -> Int -> Int -> Int -> Int -> Int -> Int -> Int -> Int -> OO
abbrev zONumber3 := Int -> Int -> Int -> LI -> Int -> Int -> Int -> LI -> Nat -> Int -> Int -> Bool -> Int -> Bool -> OO
abbrev zONumber4 := Int -> Int -> Int -> Int -> Int -> LI -> Int -> Int -> Int -> LI -> Nat -> Int -> Int -> Bool -> Int -> Bool -> Int -> Int -> Int -> Int -> Int -> Int -> Int -> Int -> Int -> Int -> Int -> Int -> OO
noncomputable def lpONumber_3s (again : Int -> LI -> Int -> Int -> OO) (k0 : zONumber0) (k1 : zONumber1) (k2 : zONumber2) (k3 : zONumber3) (k4 : zONumber4) (k5 : Int -> LI -> Int -> Int -> OO) (v1 : Int) (v2 : LI) (v3 v4 : Int) : OO :=
 cond (decide (v4 < v3)) (
 cond (decide ((0 : Int) <= v4)) (
 cond (decide (v4 < ((v2.length : Nat) : Int))) (
 Option.bind (v2[(Int.toNat v4)]?) fun (e1 : Int) =>
 cond (decide (v4 = 0)) (
 cond (decide (e1 = 128)) (
 k0 v1 v4 e1 v2 v3 v4 v4 v2 (Int.toNat v4) e1 v4 (decide (v4 = 0)) e1 (decide (e1 = 128)) (decide (e1 = 128)))
 (
 cond (decide ((33554431 : Int) < v1)) (
 k1 v1 v4 e1 v2 v3 v4 v4 v2 (Int.toNat v4) e1 v4 (decide (v4 = 0)) e1 (decide (e1 = 128)) (decide (e1 = 128)) v1 (decide ((33554431 : Int) < v1)))
 (
 let x2 : Int := IntKind.u64.wrap (v1 * 2 ^ 7)
 let x3 : Int := IntKind.u8.wrap ((BitVec.ofInt 8 e1 &&& ~~~ BitVec.ofInt 8 128).toNat)
 let x4 : Int := IntKind.u64.wrap x3
 let x5 : Int := IntKind.u64.wrap ((BitVec.ofInt 64 x2 ||| BitVec.ofInt 64 x4).toNat)
 let x6 : Int := IntKind.u8.wrap ((BitVec.ofInt 8 e1 &&& BitVec.ofInt 8 128).toNat)
 cond (decide (x6 = 0)) (
 let x7 : Int := IntKind.u32.wrap x5
 let x8 : Int := IntKind.i64.wrap (v4 + 1)
 k2 x7 x8 x5 v4 e1 v2 v3 v4 v4 v2 (Int.toNat v4) e1 v4 (decide (v4 = 0)) e1 (decide (e1 = 128)) (decide (e1 = 128)) v1 (decide ((33554431 : Int) < v1)) v1 x2 e1 x3 x4 x5 e1 x6 x5 x7 v4 x8)
 (
 let x9 : Int := IntKind.i64.wrap (v4 + 1)
 again x5 v2 v3 x9))))
 (
 cond (decide ((33554431 : Int) < v1)) (
 k3 v1 v4 e1 v2 v3 v4 v4 v2 (Int.toNat v4) e1 v4 (decide (v4 = 0)) v1 (decide ((33554431 : Int) < v1)))
 (
 let x10 : Int := IntKind.u64.wrap (v1 * 2 ^ 7)
 let x11 : Int := IntKind.u8.wrap ((BitVec.ofInt 8 e1 &&& ~~~ BitVec.ofInt 8 128).toNat)
 let x12 : Int := IntKind.u64.wrap x11
 let x13 : Int := IntKind.u64.wrap ((BitVec.ofInt 64 x10 ||| BitVec.ofInt 64 x12).toNat)
 let x14 : Int := IntKind.u8.wrap ((BitVec.ofInt 8 e1 &&& BitVec.ofInt 8 128).toNat)
 cond (decide (x14 = 0)) (
 let x15 : Int := IntKind.u32.wrap x13
 let x16 : Int := IntKind.i64.wrap (v4 + 1)
 k4 x15 x16 x13 v4 e1 v2 v3 v4 v4 v2 (Int.toNat v4) e1 v4 (decide (v4 = 0)) v1 (decide ((33554431 : Int) < v1)) v1 x10 e1 x11 x12 x13 e1 x14 x13 x15 v4 x16)
 (
 let x17 : Int := IntKind.i64.wrap (v4 + 1)
 again x13 v2 v3 x17)))) none) none)
 (
 k5 v1 v2 v3 v4)
noncomputable def lpONumber_3 (k0 : zONumber0) (k1 : zONumber1) (k2 : zONumber2) (k3 : zONumber3) (k4 : zONumber4) (k5 : Int -> LI -> Int -> Int -> OO) : Nat -> Int -> LI -> Int -> Int -> OO
 | 0 => fun _ _ _ _ => none
 | n + 1 => lpONumber_3s (lpONumber_3 k0 k1 k2 k3 k4 k5 n) k0 k1 k2 k3 k4 k5
noncomputable def clpONumber_3_0 (k : KT) : zONumber0 := fun y1 y2 y3 y4 y5 y6 y7 y8 y9 y10 y11 y12 y13 y14 y15 => k .ret ⟨[(2, qD 0), (3, qI 0), (4, qW y1), (5, qI y2), (6, qU y3), (7, qS y4), (8, qI y5), (9, qI y6), (10, qB true), (11, qI y7), (12, .cl (.vp (.sli .u8 y8) y9 0)), (13, qU y10), (14, qI y11), (15, qB y12), (16, qB true), (17, qU y13), (18, qB y14), (19, qB y15), (20, qB true), (21, .tup []), (22, .tup []), (23, qB true)], []⟩
noncomputable def clpONumber_3_1 (k : KT) : zONumber1 := fun y1 y2 y3 y4 y5 y6 y7 y8 y9 y10 y11 y12 y13 y14 y15 y16 y17 => k .ret ⟨[(2, qD 0), (3, qI 0), (4, qW y1), (5, qI y2), (6, qU y3), (7, qS y4), (8, qI y5), (9, qI y6), (10, qB true), (11, qI y7), (12, .cl (.vp (.sli .u8 y8) y9 0)), (13, qU y10), (14, qI y11), (15, qB y12), (16, qB true), (17, qU y13), (18, qB y14), (19, qB y15), (20, qB false), (21, qW y16), (22, qB y17), (23, qB true)], []⟩
noncomputable def clpONumber_3_2 (k : KT) : zONumber2 := fun y1 y2 y3 y4 y5 y6 y7 y8 y9 y10 y11 y12 y13 y14 y15 y16 y17 y18 y19 y20 y21 y22 y23 y24 y25 y26 y27 y28 y29 y30 y31 => k .ret ⟨[(2, qD y1), (3, qI y2), (4, qW y3), (5, qI y4), (6, qU y5), (7, qS y6), (8, qI y7), (9, qI y8), (10, qB true), (11, qI y9), (12, .cl (.vp (.sli .u8 y10) y11 0)), (13, qU y12), (14, qI y13), (15, qB y14), (16, qB true), (17, qU y15), (18, qB y16), (19, qB y17), (20, qB false), (21, qW y18), (22, qB y19), (23, qB false), (24, qW y20), (25, qW y21), (26, qU y22), (27, qU y23), (28, qW y24), (29, qW y25), (30, qU y26), (31, qU y27), (32, qB true), (33, qW y28), (34, qD y29), (35, qI y30), (36, qI y31)], []⟩
noncomputable def clpONumber_3_3 (k : KT) : zONumber3 := fun y1 y2 y3 y4 y5 y6 y7 y8 y9 y10 y11 y12 y13 y14 => k .ret ⟨[(2, qD 0), (3, qI 0), (4, qW y1), (5, qI y2), (6, qU y3), (7, qS y4), (8, qI y5), (9, qI y6), (10, qB true), (11, qI y7), (12, .cl (.vp (.sli .u8 y8) y9 0)), (13, qU y10), (14, qI y11), (15, qB y12), (16, qB false), (17, .tup []), (18, .tup []), (19, qB false), (20, qB false), (21, qW y13), (22, qB y14), (23, qB true)], []⟩
noncomputable def clpONumber_3_4 (k : KT) : zONumber4 := fun y1 y2 y3 y4 y5 y6 y7 y8 y9 y10 y11 y12 y13 y14 y15 y16 y17 y18 y19 y20 y21 y22 y23 y24 y25 y26 y27 y28 => k .ret ⟨[(2, qD y1), (3, qI y2), (4, qW y3), (5, qI y4), (6, qU y5), (7, qS y6), (8, qI y7), (9, qI y8), (10, qB true), (11, qI y9), (12, .cl (.vp (.sli .u8 y10) y11 0)), (13, qU y12), (14, qI y13), (15, qB y14), (16, qB false), (17, .tup []), (18, .tup []), (19, qB false), (20, qB false), (21, qW y15), (22, qB y16), (23, qB false), (24, qW y17), (25, qW y18), (26, qU y19), (27, qU y20), (28, qW y21), (29, qW y22), (30, qU y23), (31, qU y24), (32, qB true), (33, qW y25), (34, qD y26), (35, qI y27), (36, qI y28)], []⟩
noncomputable def clpONumber_3_5 (k : KT) : Int -> LI -> Int -> Int -> OO := fun y1 y2 y3 y4 => k (.exit 0) ⟨[(4, qW y1), (7, qS y2), (8, qI y3), (9, qI y4), (10, qB false)], []⟩
noncomputable def LONumber_3 : St -> (KT) -> OO := fun σ k => match σ with
 | ⟨[(q1, .cl (.int .u64 v1)), (q2, .cl (.sli .u8 v2)), (q3, .cl (.int .i64 v3)), (q4, .cl (.int .i64 v4))], []⟩ => cond (Nat.beq q1 4 && Nat.beq q2 7 && Nat.beq q3 8 && Nat.beq q4 9) (shut (lpONumber_3 (clpONumber_3_0 k) (clpONumber_3_1 k) (clpONumber_3_2 k) (clpONumber_3_3 k) (clpONumber_3_4 k) (clpONumber_3_5 k) FUEL) v1 v2 v3 v4) none
 | _ => none
noncomputable def EONumber : Env := {
 orc := fun _ => fun _ _ => Tree.fail
 pre := fun _ => fun _ _ => true
 live := fun r => cond (Nat.beq r 3) ([4, 7, 8, 9]) ([])
 glob := glVal
 nt := 38
 lp := fun r => cond (Nat.beq r 3) (some (LONumber_3)) (none)
}
noncomputable def blpONumber_3 : Code := (Cd.fst (Cd.fst (Cd.snd (Cd.fst (Cd.snd (Cd.snd (Tryd.f155.body.getD .skip)))))))
theorem lpONumber_3_step (k : KT) (n : Nat) (v1 : Int) (v2 : LI) (v3 v4 : Int) : iterK (n + 1) (codeK Tryd.prog (EONumber) 40 blpONumber_3) (head (EONumber) 3) ⟨[(4, qW v1), (7, qS v2), (8, qI v3), (9, qI v4)], []⟩ k = lpONumber_3s (fun v1 v2 v3 v4 => iterK n (codeK Tryd.prog (EONumber) 40 blpONumber_3) (head (EONumber) 3) ⟨[(4, qW v1), (7, qS v2), (8, qI v3), (9, qI v4)], []⟩ k) (clpONumber_3_0 k) (clpONumber_3_1 k) (clpONumber_3_2 k) (clpONumber_3_3 k) (clpONumber_3_4 k) (clpONumber_3_5 k) v1 v2 v3 v4 := by kernel_rfl
theorem lpONumber_3_eq (k : KT) : ∀ (n : Nat), ∀ (v1 : Int) (v2 : LI) (v3 v4 : Int), iterK n (codeK Tryd.prog (EONumber) 40 blpONumber_3) (head (EONumber) 3) ⟨[(4, qW v1), (7, qS v2), (8, qI v3), (9, qI v4)], []⟩ k = lpONumber_3 (clpONumber_3_0 k) (clpONumber_3_1 k) (clpONumber_3_2 k) (clpONumber_3_3 k) (clpONumber_3_4 k) (clpONumber_3_5 k) n v1 v2 v3 v4
 | 0 => by intros; rfl
 | n + 1 => by
  intros
  rw [lpONumber_3_step]
  have ih := lpONumber_3_eq k n
  simp only [lpONumber_3, ih]
theorem LONumber_3_ok : ∀ (σ : St) (k : KT) (r : Out), LONumber_3 σ k = some r -> ∃ n, iterK n (codeK Tryd.prog (EONumber) 40 blpONumber_3) (head (EONumber) 3) σ k = some r := by
 intro σ k r h
 unfold LONumber_3 at h
 split at h
 ·replace h := cond_some h
  obtain ⟨hc, h⟩ := h
  simp only [Bool.and_eq_true, beq_prop, decide_eq_true_eq, Bool.not_eq_true'] at hc
  obtain ⟨⟨⟨rfl, rfl⟩, rfl⟩, rfl⟩ := hc
  rw [shut_eq] at h
  exact ⟨FUEL, (lpONumber_3_eq k FUEL _ _ _ _ ).trans h⟩
 ·cases h
theorem loopsONumber : ∀ c, Tryd.f155.body = some c -> LoopsOk Tryd.prog (EONumber) 40 c := by
 intro c hc
 cases hc
 exact ⟨trivial, ⟨trivial, ⟨⟨trivial, ⟨noneL_ok _ (by kernel_rfl), lp_some rfl (LONumber_3_ok)⟩, jn_none rfl⟩, ⟨trivial, trivial, jn_none rfl⟩, jn_none rfl⟩, jn_none rfl⟩, jn_none rfl⟩
noncomputable def gONumber (b : LI) : OO :=
 shut (lpONumber_3
 (fun y1 y2 y3 y4 y5 y6 y7 y8 y9 y10 y11 y12 y13 y14 y15 =>
 some (.ret [.cl (.int .u32 0), .cl (.int .i64 0)] []))
 (fun y16 y17 y18 y19 y20 y21 y22 y23 y24 y25 y26 y27 y28 y29 y30 y31 y32 =>
 some (.ret [.cl (.int .u32 0), .cl (.int .i64 0)] []))
 (fun y33 y34 y35 y36 y37 y38 y39 y40 y41 y42 y43 y44 y45 y46 y47 y48 y49 y50 y51 y52 y53 y54 y55 y56 y57 y58 y59 y60 y61 y62 y63 =>
 some (.ret [.cl (.int .u32 y33), .cl (.int .i64 y34)] []))
 (fun y64 y65 y66 y67 y68 y69 y70 y71 y72 y73 y74 y75 y76 y77 =>
 some (.ret [.cl (.int .u32 0), .cl (.int .i64 0)] []))
 (fun y78 y79 y80 y81 y82 y83 y84 y85 y86 y87 y88 y89 y90 y91 y92 y93 y94 y95 y96 y97 y98 y99 y100 y101 y102 y103 y104 y105 =>
 some (.ret [.cl (.int .u32 y78), .cl (.int .i64 y79)] []))
 (fun y106 y107 y108 y109 =>
 some (.ret [.cl (.int .u32 0), .cl (.int .i64 0)] []))
 FUEL) 0 b ((b.length : Nat) : Int) 0
theorem gONumber_eq (b : LI) : bodyK Tryd.prog (EONumber) 40 false Tryd.f155 [.cl (.sli .u8 b)] [] = gONumber b := by kernel_rfl

noncomputable def EONumbers : Env := {
 orc := fun _ => fun _ _ => Tree.fail
 pre := fun _ => fun _ _ => true
 glob := glVal
 nt := 4
}
theorem loopsONumbers : ∀ c, Tryd.f121.body = some c -> LoopsOk Tryd.prog (EONumbers) 40 c := by
 intro c hc
 cases hc
 exact noneL_ok _ (by kernel_rfl)
noncomputable def gONumbers (b : LI) : OO :=
 some (.ret [.fn (.func 154) [] [.ptr 0 0 0]] [some ⟨.var [.cl (.sli .u8 b)], false⟩])
theorem gONumbers_eq (b : LI) : bodyK Tryd.prog (EONumbers) 40 true Tryd.f121 [.cl (.sli .u8 b)] [] = gONumbers b := by kernel_rfl

noncomputable def rlOParse_3s (again : Nat -> LI -> OO) (k0 : Nat -> LI -> OO) (k1 : Nat -> LI -> OO) (e1 : Int) (e2 : Bool) (v1 : Nat) (v2 : LI) : OO :=
 cond (!e2) (
 k0 v1 v2)
 (
 cond (decide ((20 : Int) < ((v1 : Nat) : Int))) (
 k0 v1 v2)
 (
 cond (decide (((v1 : Nat) : Int) = 0)) (
 let x1 : Int := IntKind.u32.wrap (Int.tdiv e1 40)
 let x2 : Int := cond (decide ((2 : Int) < x1)) 2 x1
 let l3 : LI := v2 ++ [x2]
 cond (Nat.ble (l3.length * 4) LIMN) (
 cond (Nat.ble l3.length LIMN) (
 let x4 : Int := IntKind.u32.wrap ((40 : Int) * x2)
 let x5 : Int := IntKind.u32.wrap (e1 - x4)
 let l6 : LI := l3 ++ [x5]
 cond (Nat.ble (l6.length * 4) LIMN) (
 cond (Nat.ble l6.length LIMN) (
 again l6.length l6) none) none) none) none)
 (
 let l7 : LI := v2 ++ [e1]
 cond (Nat.ble (l7.length * 4) LIMN) (
 cond (Nat.ble l7.length LIMN) (
 again l7.length l7) none) none)))
noncomputable def rlOParse_3 (k0 : Nat -> LI -> OO) (k1 : Nat -> LI -> OO) : List LC -> Nat -> LI -> OO
 | [] => fun v1 v2 => k1 v1 v2
 | x :: r => rlOParse_3s (rlOParse_3 k0 k1 r) k0 k1 (cvInt (x.getD 0 .nili)) (cvBool (x.getD 1 .nili))
noncomputable def ROParse_3 : St -> List LC -> (KT) -> OO := fun σ xs k => match σ with
 | ⟨[(q1, .ptr q2 q3 q4), (q5, .ptr q6 q7 q8), (q9, .ptr q10 q11 q12)], [(q13, ⟨.var [.nils], false⟩), (q14, ⟨.var [.cl (.int .i64 q15)], false⟩), (q16, ⟨.var [.ref q17 q18 v1 true q19], false⟩), (q20, ⟨.ints .u32 v2, false⟩)]⟩ => cond (List.all xs okONums) (cond (Nat.beq q1 2 && Nat.beq q2 0 && Nat.beq q3 0 && Nat.beq q4 0 && Nat.beq q5 3 && Nat.beq q6 1 && Nat.beq q7 0 && Nat.beq q8 0 && Nat.beq q9 4 && Nat.beq q10 2 && Nat.beq q11 0 && Nat.beq q12 0 && Nat.beq q13 0 && Nat.beq q14 1 && decide (q15 = 0) && Nat.beq q16 2 && Nat.beq q17 100 && Nat.beq q18 0 && Nat.beq q19 1 && Nat.beq q20 100) (shut (rlOParse_3 (fun y1 y2 => k .ret ⟨[(2, .ptr 0 0 0), (3, .ptr 1 0 0), (4, .ptr 2 0 0)], [(0, ⟨.var [.nils], false⟩), (1, ⟨.var [.cl (.int .i64 5)], false⟩), (2, ⟨.var [.ref 100 0 y1 true 1], false⟩), (100, ⟨.ints .u32 y2, false⟩)]⟩) (fun y1 y2 => k .normal ⟨[(2, .ptr 0 0 0), (3, .ptr 1 0 0), (4, .ptr 2 0 0)], [(0, ⟨.var [.nils], false⟩), (1, ⟨.var [.cl (.int .i64 0)], false⟩), (2, ⟨.var [.ref 100 0 y1 true 1], false⟩), (100, ⟨.ints .u32 y2, false⟩)]⟩)) xs v1 v2) none) none
 | _ => none
noncomputable def EOParse : Env := {
 orc := fun g => cond (Nat.beq g 121) SONumbers (cond (Nat.beq g 122) SOFit (fun _ _ => Tree.fail))
 pre := fun g => cond (Nat.beq g 121) preONumbers (cond (Nat.beq g 122) preOFit (cond (Nat.beq g 154) preONums (fun _ _ => true)))
 keep := fun g => cond (Nat.beq g 121) true (false)
 live := fun r => cond (Nat.beq r 3) ([2, 3, 4]) ([])
 vir := fun r => cond (Nat.beq r 3) ([(2, 0, 100, .ints .u32 [])]) ([])
 glob := glVal
 nt := 41
 lowr := fun r => cond (Nat.beq r 3) ([(66, 0), (67, 1), (68, 2)]) ([])
 sq := fun g => cond (Nat.beq g 154) QONums (fun _ _ => none)
 rf := fun r => cond (Nat.beq r 3) (some (ROParse_3)) (none)
}
noncomputable def arlOParse_3 : Code := Cd.fst (Cd.fst (Cd.snd (Cd.fst (Cd.snd (Cd.snd (Tryd.f82.body.getD .skip))))))
noncomputable def brlOParse_3 : Code := Cd.snd (Cd.fst (Cd.snd (Cd.fst (Cd.snd (Cd.snd (Tryd.f82.body.getD .skip))))))
theorem rlOParse_3_step (k : KT) (r : List LC) (e1 : Int) (e2 : Bool) (v1 : Nat) (v2 : LI) : rangeK (EOParse) 41 3 [10, 11] (codeK Tryd.prog (EOParse) 40 arlOParse_3) (codeK Tryd.prog (EOParse) 40 brlOParse_3) ([.int .u32 e1, .bool e2] :: r) ⟨[(2, .ptr 0 0 0), (3, .ptr 1 0 0), (4, .ptr 2 0 0)], [(0, ⟨.var [.nils], false⟩), (1, ⟨.var [.cl (.int .i64 0)], false⟩), (2, ⟨.var [.ref 100 0 v1 true 1], false⟩), (100, ⟨.ints .u32 v2, false⟩)]⟩ k = rlOParse_3s (fun v1 v2 => rangeK (EOParse) 41 3 [10, 11] (codeK Tryd.prog (EOParse) 40 arlOParse_3) (codeK Tryd.prog (EOParse) 40 brlOParse_3) r ⟨[(2, .ptr 0 0 0), (3, .ptr 1 0 0), (4, .ptr 2 0 0)], [(0, ⟨.var [.nils], false⟩), (1, ⟨.var [.cl (.int .i64 0)], false⟩), (2, ⟨.var [.ref 100 0 v1 true 1], false⟩), (100, ⟨.ints .u32 v2, false⟩)]⟩ k) (fun y1 y2 => k .ret ⟨[(2, .ptr 0 0 0), (3, .ptr 1 0 0), (4, .ptr 2 0 0)], [(0, ⟨.var [.nils], false⟩), (1, ⟨.var [.cl (.int .i64 5)], false⟩), (2, ⟨.var [.ref 100 0 y1 true 1], false⟩), (100, ⟨.ints .u32 y2, false⟩)]⟩) (fun y1 y2 => k .normal ⟨[(2, .ptr 0 0 0), (3, .ptr 1 0 0), (4, .ptr 2 0 0)], [(0, ⟨.var [.nils], false⟩), (1, ⟨.var [.cl (.int .i64 0)], false⟩), (2, ⟨.var [.ref 100 0 y1 true 1], false⟩), (100, ⟨.ints .u32 y2, false⟩)]⟩) e1 e2 v1 v2 := by kernel_rfl
theorem rlOParse_3_eq (k : KT) : ∀ (xs : List LC), List.all xs okONums = true -> ∀ (v1 : Nat) (v2 : LI), rangeK (EOParse) 41 3 [10, 11] (codeK Tryd.prog (EOParse) 40 arlOParse_3) (codeK Tryd.prog (EOParse) 40 brlOParse_3) xs ⟨[(2, .ptr 0 0 0), (3, .ptr 1 0 0), (4, .ptr 2 0 0)], [(0, ⟨.var [.nils], false⟩), (1, ⟨.var [.cl (.int .i64 0)], false⟩), (2, ⟨.var [.ref 100 0 v1 true 1], false⟩), (100, ⟨.ints .u32 v2, false⟩)]⟩ k = rlOParse_3 (fun y1 y2 => k .ret ⟨[(2, .ptr 0 0 0), (3, .ptr 1 0 0), (4, .ptr 2 0 0)], [(0, ⟨.var [.nils], false⟩), (1, ⟨.var [.cl (.int .i64 5)], false⟩), (2, ⟨.var [.ref 100 0 y1 true 1], false⟩), (100, ⟨.ints .u32 y2, false⟩)]⟩) (fun y1 y2 => k .normal ⟨[(2, .ptr 0 0 0), (3, .ptr 1 0 0), (4, .ptr 2 0 0)], [(0, ⟨.var [.nils], false⟩), (1, ⟨.var [.cl (.int .i64 0)], false⟩), (2, ⟨.var [.ref 100 0 y1 true 1], false⟩), (100, ⟨.ints .u32 y2, false⟩)]⟩) xs v1 v2
 | [], _ => by intros; rfl
 | x :: r, h => by
  intros
  simp only [List.all_cons, Bool.and_eq_true] at h
  obtain ⟨e1, e2, rfl⟩ := okONums_of h.1
  rw [rlOParse_3_step]
  have ih := rlOParse_3_eq k r h.2
  simp only [ih]
  rfl
theorem ROParse_3_ok : ∀ (σ : St) (xs : List LC) (k : KT) (r : Out), ROParse_3 σ xs k = some r -> rangeK (EOParse) 41 3 [10, 11] (codeK Tryd.prog (EOParse) 40 arlOParse_3) (codeK Tryd.prog (EOParse) 40 brlOParse_3) xs σ k = some r := by
 intro σ xs k r h
 unfold ROParse_3 at h
 split at h
 ·replace h := cond_some h
  obtain ⟨hx, h⟩ := h
  replace h := cond_some h
  obtain ⟨hc, h⟩ := h
  simp only [Bool.and_eq_true, beq_prop, decide_eq_true_eq, Bool.not_eq_true'] at hc
  obtain ⟨⟨⟨⟨⟨⟨⟨⟨⟨⟨⟨⟨⟨⟨⟨⟨⟨⟨⟨rfl, rfl⟩, rfl⟩, rfl⟩, rfl⟩, rfl⟩, rfl⟩, rfl⟩, rfl⟩, rfl⟩, rfl⟩, rfl⟩, rfl⟩, rfl⟩, rfl⟩, rfl⟩, rfl⟩, rfl⟩, rfl⟩, rfl⟩ := hc
  rw [shut_eq] at h
  exact (rlOParse_3_eq k xs hx _ _ ).trans h
 ·cases h
theorem loopsOParse : ∀ c, Tryd.f82.body = some c -> LoopsOk Tryd.prog (EOParse) 40 c := by
 intro c hc
 cases hc
 exact ⟨trivial, ⟨trivial, ⟨⟨trivial, ⟨⟨trivial, trivial, jn_none rfl⟩, noneL_ok _ (by kernel_rfl), rfl, rfl, rf_some rfl (ROParse_3_ok)⟩, jn_none rfl⟩, noneL_ok _ (by kernel_rfl), jn_none rfl⟩, jn_none rfl⟩, jn_none rfl⟩
noncomputable def gOParse (b : LI) : OO :=
 cond (bytesOk b) (
 cond (List.all (oidRows (oidNums b)) okONums) (
 shut (rlOParse_3
 (fun y1 y2 =>
 some (.ret [.cl (.sli .u32 []), .cl (.int .i64 5)] []))
 (fun y3 y4 =>
 let r5 : Bool := oidFit y4
 cond (!r5) (
 some (.ret [.cl (.sli .u32 []), .cl (.int .i64 5)] []))
 (
 some (.ret [.cl (.sli .u32 y4), .cl (.int .i64 0)] [])))) (oidRows (oidNums b)) 0 []) none) none
theorem gOParse_eq (b : LI) : bodyK Tryd.prog (EOParse) 40 false Tryd.f82 [.cl (.sli .u8 b)] [] = gOParse b := by kernel_rfl

abbrev zR2Parse0 := LI -> Nat -> Int -> Bool -> Int -> Int -> LI -> Int -> Bool -> LI -> Int -> LI -> Nat -> Int -> Bool -> LI -> OO
abbrev zR2Parse1 := LI -> Nat -> Int -> Bool -> Int -> Int -> LI -> Int -> Bool -> LI -> Int -> LI -> Nat -> Int -> Bool -> Int -> Int -> LI -> Int -> LI -> Nat -> Int -> Int -> Int -> Int -> LI -> Int -> LI -> Nat -> Int -> Bool -> Int -> LI -> OO
abbrev zR2Parse2 := LI -> Nat -> Int -> Bool -> Int -> Int -> LI -> Int -> Bool -> Int -> Int -> LI -> Int -> LI -> Nat -> Int -> Int -> Int -> Int -> LI -> Int -> LI -> Nat -> Int -> Bool -> Int -> LI -> OO
abbrev zR2Parse3 := LI -> Nat -> Int -> Bool -> Int -> Int -> LI -> Int -> LI -> OO
noncomputable def lpR2Parse_5s (again : LI -> Nat -> Int -> Bool -> Int -> LI -> OO) (k0 : zR2Parse0) (k1 : zR2Parse1) (k2 : zR2Parse2) (k3 : zR2Parse3) (v1 : LI) (v2 : Nat) (v3 : Int) (v4 : Bool) (v5 : Int) (v6 : LI) : OO :=
 cond (decide (v5 < ((v1.length : Nat) : Int))) (
 cond (v4) (
 cond (decide ((0 : Int) <= v5)) (
 cond (decide (v5 < ((v1.length : Nat) : Int))) (
 Option.bind (v1[(Int.toNat v5)]?) fun (e1 : Int) =>
 cond (decide (e1 = 128)) (
 k0 v1 v2 v3 v4 v5 v5 v1 ((v1.length : Nat) : Int) v4 v1 v5 v1 (Int.toNat v5) e1 (decide (e1 = 128)) v6)
 (
 let x2 : Int := IntKind.u64.wrap (v3 * 128)
 cond (decide ((0 : Int) <= v5)) (
 cond (decide (v5 < ((v1.length : Nat) : Int))) (
 Option.bind (v1[(Int.toNat v5)]?) fun (e3 : Int) =>
 let x4 : Int := Int.tmod e3 128
 let x5 : Int := IntKind.u64.wrap x4
 let x6 : Int := IntKind.u64.wrap (x2 + x5)
 cond (decide ((0 : Int) <= v5)) (
 cond (decide (v5 < ((v1.length : Nat) : Int))) (
 Option.bind (v1[(Int.toNat v5)]?) fun (e7 : Int) =>
 cond (decide ((4294967295 : Int) < x6)) (
 k1 v1 v2 x6 (decide (e7 < 128)) v5 v5 v1 ((v1.length : Nat) : Int) v4 v1 v5 v1 (Int.toNat v5) e1 (decide (e1 = 128)) v3 x2 v1 v5 v1 (Int.toNat v5) e3 x4 x5 x6 v1 v5 v1 (Int.toNat v5) e7 (decide (e7 < 128)) x6 v6)
 (
 cond (!(decide (e7 < 128))) (
 let x8 : Int := IntKind.i64.wrap (v5 + 1)
 again v1 v2 x6 (decide (e7 < 128)) x8 v6)
 (
 cond (decide (((v2 : Nat) : Int) = 0)) (
 cond (u32Ok x6) (
 let r9 : LI := oidFirst x6
 let l10 : LI := v6 ++ r9
 cond (Nat.ble (l10.length * 4) LIMN) (
 cond (Nat.ble l10.length LIMN) (
 let x11 : Int := IntKind.i64.wrap (v5 + 1)
 again v1 l10.length 0 (decide (e7 < 128)) x11 l10) none) none) none)
 (
 let x12 : Int := IntKind.u32.wrap x6
 let l13 : LI := v6 ++ [x12]
 cond (Nat.ble (l13.length * 4) LIMN) (
 cond (Nat.ble l13.length LIMN) (
 let x14 : Int := IntKind.i64.wrap (v5 + 1)
 again v1 l13.length 0 (decide (e7 < 128)) x14 l13) none) none)))) none) none) none) none)) none) none)
 (
 let x15 : Int := IntKind.u64.wrap (v3 * 128)
 cond (decide ((0 : Int) <= v5)) (
 cond (decide (v5 < ((v1.length : Nat) : Int))) (
 Option.bind (v1[(Int.toNat v5)]?) fun (e16 : Int) =>
 let x17 : Int := Int.tmod e16 128
 let x18 : Int := IntKind.u64.wrap x17
 let x19 : Int := IntKind.u64.wrap (x15 + x18)
 cond (decide ((0 : Int) <= v5)) (
 cond (decide (v5 < ((v1.length : Nat) : Int))) (
 Option.bind (v1[(Int.toNat v5)]?) fun (e20 : Int) =>
 cond (decide ((4294967295 : Int) < x19)) (
 k2 v1 v2 x19 (decide (e20 < 128)) v5 v5 v1 ((v1.length : Nat) : Int) v4 v3 x15 v1 v5 v1 (Int.toNat v5) e16 x17 x18 x19 v1 v5 v1 (Int.toNat v5) e20 (decide (e20 < 128)) x19 v6)
 (
 cond (!(decide (e20 < 128))) (
 let x21 : Int := IntKind.i64.wrap (v5 + 1)
 again v1 v2 x19 (decide (e20 < 128)) x21 v6)
 (
 cond (decide (((v2 : Nat) : Int) = 0)) (
 cond (u32Ok x19) (
 let r22 : LI := oidFirst x19
 let l23 : LI := v6 ++ r22
 cond (Nat.ble (l23.length * 4) LIMN) (
 cond (Nat.ble l23.length LIMN) (
 let x24 : Int := IntKind.i64.wrap (v5 + 1)
 again v1 l23.length 0 (decide (e20 < 128)) x24 l23) none) none) none)
 (
 let x25 : Int := IntKind.u32.wrap x19
 let l26 : LI := v6 ++ [x25]
 cond (Nat.ble (l26.length * 4) LIMN) (
 cond (Nat.ble l26.length LIMN) (
 let x27 : Int := IntKind.i64.wrap (v5 + 1)
 again v1 l26.length 0 (decide (e20 < 128)) x27 l26) none) none)))) none) none) none) none))
 (
 k3 v1 v2 v3 v4 v5 v5 v1 ((v1.length : Nat) : Int) v6)
noncomputable def lpR2Parse_5 (k0 : zR2Parse0) (k1 : zR2Parse1) (k2 : zR2Parse2) (k3 : zR2Parse3) : Nat -> LI -> Nat -> Int -> Bool -> Int -> LI -> OO
 | 0 => fun _ _ _ _ _ _ => none
 | n + 1 => lpR2Parse_5s (lpR2Parse_5 k0 k1 k2 k3 n) k0 k1 k2 k3
noncomputable def clpR2Parse_5_0 (k : KT) : zR2Parse0 := fun y1 y2 y3 y4 y5 y6 y7 y8 y9 y10 y11 y12 y13 y14 y15 y16 => k .ret ⟨[(0, qS y1), (2, .ref 66 0 0 true 1), (3, qI 5), (4, .ref 68 0 y2 true 1), (5, qW y3), (6, qB y4), (7, qI y5), (8, qI y6), (9, qS y7), (10, qI y8), (11, qB true), (14, qB y9), (15, qB true), (16, qS y10), (17, qI y11), (18, .cl (.vp (.sli .u8 y12) y13 0)), (19, qU y14), (20, qB y15), (21, qB true)], [(66, ⟨.ints .u32 [], false⟩), (68, ⟨.ints .u32 y16, false⟩)]⟩
noncomputable def clpR2Parse_5_1 (k : KT) : zR2Parse1 := fun y1 y2 y3 y4 y5 y6 y7 y8 y9 y10 y11 y12 y13 y14 y15 y16 y17 y18 y19 y20 y21 y22 y23 y24 y25 y26 y27 y28 y29 y30 y31 y32 y33 => k .ret ⟨[(0, qS y1), (2, .ref 66 0 0 true 1), (3, qI 5), (4, .ref 68 0 y2 true 1), (5, qW y3), (6, qB y4), (7, qI y5), (8, qI y6), (9, qS y7), (10, qI y8), (11, qB true), (14, qB y9), (15, qB true), (16, qS y10), (17, qI y11), (18, .cl (.vp (.sli .u8 y12) y13 0)), (19, qU y14), (20, qB y15), (21, qB false), (22, qW y16), (23, qW y17), (24, qS y18), (25, qI y19), (26, .cl (.vp (.sli .u8 y20) y21 0)), (27, qU y22), (28, qU y23), (29, qW y24), (30, qW y25), (31, qS y26), (32, qI y27), (33, .cl (.vp (.sli .u8 y28) y29 0)), (34, qU y30), (35, qB y31), (36, qW y32), (37, qB true)], [(66, ⟨.ints .u32 [], false⟩), (68, ⟨.ints .u32 y33, false⟩)]⟩
noncomputable def clpR2Parse_5_2 (k : KT) : zR2Parse2 := fun y1 y2 y3 y4 y5 y6 y7 y8 y9 y10 y11 y12 y13 y14 y15 y16 y17 y18 y19 y20 y21 y22 y23 y24 y25 y26 y27 => k .ret ⟨[(0, qS y1), (2, .ref 66 0 0 true 1), (3, qI 5), (4, .ref 68 0 y2 true 1), (5, qW y3), (6, qB y4), (7, qI y5), (8, qI y6), (9, qS y7), (10, qI y8), (11, qB true), (14, qB y9), (15, qB false), (16, .tup []), (17, .tup []), (18, .tup []), (19, .tup []), (20, .tup []), (21, qB false), (22, qW y10), (23, qW y11), (24, qS y12), (25, qI y13), (26, .cl (.vp (.sli .u8 y14) y15 0)), (27, qU y16), (28, qU y17), (29, qW y18), (30, qW y19), (31, qS y20), (32, qI y21), (33, .cl (.vp (.sli .u8 y22) y23 0)), (34, qU y24), (35, qB y25), (36, qW y26), (37, qB true)], [(66, ⟨.ints .u32 [], false⟩), (68, ⟨.ints .u32 y27, false⟩)]⟩
noncomputable def clpR2Parse_5_3 (k : KT) : zR2Parse3 := fun y1 y2 y3 y4 y5 y6 y7 y8 y9 => k (.exit 0) ⟨[(0, qS y1), (4, .ref 68 0 y2 true 1), (5, qW y3), (6, qB y4), (7, qI y5), (8, qI y6), (9, qS y7), (10, qI y8), (11, qB false)], [(68, ⟨.ints .u32 y9, false⟩)]⟩
noncomputable def LR2Parse_5 : St -> (KT) -> OO := fun σ k => match σ with
 | ⟨[(q1, .cl (.sli .u8 v1)), (q2, .ref q3 q4 v2 true q5), (q6, .cl (.int .u64 v3)), (q7, .cl (.bool v4)), (q8, .cl (.int .i64 v5))], [(q9, ⟨.ints .u32 v6, false⟩)]⟩ => cond (Nat.beq q1 0 && Nat.beq q2 4 && Nat.beq q3 68 && Nat.beq q4 0 && Nat.beq q5 1 && Nat.beq q6 5 && Nat.beq q7 6 && Nat.beq q8 7 && Nat.beq q9 68) (shut (lpR2Parse_5 (clpR2Parse_5_0 k) (clpR2Parse_5_1 k) (clpR2Parse_5_2 k) (clpR2Parse_5_3 k) FUEL) v1 v2 v3 v4 v5 v6) none
 | _ => none
noncomputable def ER2Parse : Env := {
 orc := fun g => cond (Nat.beq g 123) SR2First (cond (Nat.beq g 124) SR2Fit (fun _ _ => Tree.fail))
 pre := fun g => cond (Nat.beq g 123) preR2First (cond (Nat.beq g 124) preR2Fit (fun _ _ => true))
 live := fun r => cond (Nat.beq r 5) ([0, 4, 5, 6, 7]) ([])
 ren := fun r => cond (Nat.beq r 5) ([(110, 68), (115, 68)]) ([])
 glob := glVal
 nt := 60
 lp := fun r => cond (Nat.beq r 5) (some (LR2Parse_5)) (none)
}
noncomputable def blpR2Parse_5 : Code := (Cd.fst (Cd.fst (Cd.snd (Cd.fst (Cd.snd (Cd.snd (Cd.snd (Cd.snd (Tryd.f83.body.getD .skip)))))))))
theorem lpR2Parse_5_step (k : KT) (n : Nat) (v1 : LI) (v2 : Nat) (v3 : Int) (v4 : Bool) (v5 : Int) (v6 : LI) : iterK (n + 1) (codeK Tryd.prog (ER2Parse) 40 blpR2Parse_5) (head (ER2Parse) 5) ⟨[(0, qS v1), (4, .ref 68 0 v2 true 1), (5, qW v3), (6, qB v4), (7, qI v5)], [(68, ⟨.ints .u32 v6, false⟩)]⟩ k = lpR2Parse_5s (fun v1 v2 v3 v4 v5 v6 => iterK n (codeK Tryd.prog (ER2Parse) 40 blpR2Parse_5) (head (ER2Parse) 5) ⟨[(0, qS v1), (4, .ref 68 0 v2 true 1), (5, qW v3), (6, qB v4), (7, qI v5)], [(68, ⟨.ints .u32 v6, false⟩)]⟩ k) (clpR2Parse_5_0 k) (clpR2Parse_5_1 k) (clpR2Parse_5_2 k) (clpR2Parse_5_3 k) v1 v2 v3 v4 v5 v6 := by kernel_rfl
theorem lpR2Parse_5_eq (k : KT) : ∀ (n : Nat), ∀ (v1 : LI) (v2 : Nat) (v3 : Int) (v4 : Bool) (v5 : Int) (v6 : LI), iterK n (codeK Tryd.prog (ER2Parse) 40 blpR2Parse_5) (head (ER2Parse) 5) ⟨[(0, qS v1), (4, .ref 68 0 v2 true 1), (5, qW v3), (6, qB v4), (7, qI v5)], [(68, ⟨.ints .u32 v6, false⟩)]⟩ k = lpR2Parse_5 (clpR2Parse_5_0 k) (clpR2Parse_5_1 k) (clpR2Parse_5_2 k) (clpR2Parse_5_3 k) n v1 v2 v3 v4 v5 v6
 | 0 => by intros; rfl
 | n + 1 => by
  intros
  rw [lpR2Parse_5_step]
  have ih := lpR2Parse_5_eq k n
  simp only [lpR2Parse_5, ih]
theorem LR2Parse_5_ok : ∀ (σ : St) (k : KT) (r : Out), LR2Parse_5 σ k = some r -> ∃ n, iterK n (codeK Tryd.prog (ER2Parse) 40 blpR2Parse_5) (head (ER2Parse) 5) σ k = some r := by
 intro σ k r h
 unfold LR2Parse_5 at h
 split at h
 ·replace h := cond_some h
  obtain ⟨hc, h⟩ := h
  simp only [Bool.and_eq_true, beq_prop, decide_eq_true_eq, Bool.not_eq_true'] at hc
  obtain ⟨⟨⟨⟨⟨⟨⟨⟨rfl, rfl⟩, rfl⟩, rfl⟩, rfl⟩, rfl⟩, rfl⟩, rfl⟩, rfl⟩ := hc
  rw [shut_eq] at h
  exact ⟨FUEL, (lpR2Parse_5_eq k FUEL _ _ _ _ _ _ ).trans h⟩
 ·cases h
theorem loopsR2Parse : ∀ c, Tryd.f83.body = some c -> LoopsOk Tryd.prog (ER2Parse) 40 c := by
 intro c hc
 cases hc
 exact ⟨trivial, ⟨trivial, ⟨trivial, ⟨trivial, ⟨⟨trivial, ⟨noneL_ok _ (by kernel_rfl), lp_some rfl (LR2Parse_5_ok)⟩, jn_none rfl⟩, noneL_ok _ (by kernel_rfl), jn_none rfl⟩, jn_none rfl⟩, jn_none rfl⟩, jn_none rfl⟩, jn_none rfl⟩
noncomputable def gR2Parse (b : LI) : OO :=
 shut (lpR2Parse_5
 (fun y1 y2 y3 y4 y5 y6 y7 y8 y9 y10 y11 y12 y13 y14 y15 y16 =>
 some (.ret [.cl (.sli .u32 []), .cl (.int .i64 5)] []))
 (fun y17 y18 y19 y20 y21 y22 y23 y24 y25 y26 y27 y28 y29 y30 y31 y32 y33 y34 y35 y36 y37 y38 y39 y40 y41 y42 y43 y44 y45 y46 y47 y48 y49 =>
 some (.ret [.cl (.sli .u32 []), .cl (.int .i64 5)] []))
 (fun y50 y51 y52 y53 y54 y55 y56 y57 y58 y59 y60 y61 y62 y63 y64 y65 y66 y67 y68 y69 y70 y71 y72 y73 y74 y75 y76 =>
 some (.ret [.cl (.sli .u32 []), .cl (.int .i64 5)] []))
 (fun y77 y78 y79 y80 y81 y82 y83 y84 y85 =>
 cond (!y80) (
 some (.ret [.cl (.sli .u32 []), .cl (.int .i64 5)] []))
 (
 let r86 : Bool := oidFit y85
 cond (!r86) (
 some (.ret [.cl (.sli .u32 []), .cl (.int .i64 5)] []))
 (
 some (.ret [.cl (.sli .u32 y85), .cl (.int .i64 0)] []))))
 FUEL) b 0 0 true 0 []
theorem gR2Parse_eq (b : LI) : bodyK Tryd.prog (ER2Parse) 40 false Tryd.f83 [.cl (.sli .u8 b)] [] = gR2Parse b := by kernel_rfl

abbrev zR1Same0 := LI -> LI -> Int -> Int -> LI -> Int -> LI -> Int -> LI -> Nat -> Int -> LI -> Int -> LI -> Nat -> Int -> OO
abbrev zR1Same1 := LI -> LI -> Int -> Int -> LI -> Int -> OO
noncomputable def lpR1Same_4s (again : LI -> LI -> Int -> OO) (k0 : zR1Same0) (k1 : zR1Same1) (v1 v2 : LI) (v3 : Int) : OO :=
 cond (decide (v3 < ((v1.length : Nat) : Int))) (
 cond (decide ((0 : Int) <= v3)) (
 cond (decide (v3 < ((v1.length : Nat) : Int))) (
 Option.bind (v1[(Int.toNat v3)]?) fun (e1 : Int) =>
 cond (decide ((0 : Int) <= v3)) (
 cond (decide (v3 < ((v2.length : Nat) : Int))) (
 Option.bind (v2[(Int.toNat v3)]?) fun (e2 : Int) =>
 cond (!decide (e1 = e2)) (
 k0 v1 v2 v3 v3 v1 ((v1.length : Nat) : Int) v1 v3 v1 (Int.toNat v3) e1 v2 v3 v2 (Int.toNat v3) e2)
 (
 let x3 : Int := IntKind.i64.wrap (v3 + 1)
 again v1 v2 x3)) none) none) none) none)
 (
 k1 v1 v2 v3 v3 v1 ((v1.length : Nat) : Int))
noncomputable def lpR1Same_4 (k0 : zR1Same0) (k1 : zR1Same1) : Nat -> LI -> LI -> Int -> OO
 | 0 => fun _ _ _ => none
 | n + 1 => lpR1Same_4s (lpR1Same_4 k0 k1 n) k0 k1
noncomputable def clpR1Same_4_0 (k : KT) : zR1Same0 := fun y1 y2 y3 y4 y5 y6 y7 y8 y9 y10 y11 y12 y13 y14 y15 y16 => k .ret ⟨[(0, qS y1), (1, qS y2), (4, qB false), (5, qI y3), (11, qI y4), (12, qS y5), (13, qI y6), (14, qB true), (17, qS y7), (18, qI y8), (19, .cl (.vp (.sli .u8 y9) y10 0)), (20, qU y11), (21, qS y12), (22, qI y13), (23, .cl (.vp (.sli .u8 y14) y15 0)), (24, qU y16), (25, qB true)], []⟩
noncomputable def clpR1Same_4_1 (k : KT) : zR1Same1 := fun y1 y2 y3 y4 y5 y6 => k (.exit 0) ⟨[(0, qS y1), (1, qS y2), (5, qI y3), (11, qI y4), (12, qS y5), (13, qI y6), (14, qB false)], []⟩
noncomputable def LR1Same_4 : St -> (KT) -> OO := fun σ k => match σ with
 | ⟨[(q1, .cl (.sli .u8 v1)), (q2, .cl (.sli .u8 v2)), (q3, .cl (.int .i64 v3))], []⟩ => cond (Nat.beq q1 0 && Nat.beq q2 1 && Nat.beq q3 5) (shut (lpR1Same_4 (clpR1Same_4_0 k) (clpR1Same_4_1 k) FUEL) v1 v2 v3) none
 | _ => none
noncomputable def ER1Same : Env := {
 orc := fun _ => fun _ _ => Tree.fail
 pre := fun _ => fun _ _ => true
 live := fun r => cond (Nat.beq r 4) ([0, 1, 5]) ([])
 glob := glVal
 nt := 26
 lp := fun r => cond (Nat.beq r 4) (some (LR1Same_4)) (none)
}
noncomputable def blpR1Same_4 : Code := (Cd.fst (Cd.fst (Cd.snd (Cd.fst (Cd.snd (Cd.snd (Tryd.f28.body.getD .skip)))))))
theorem lpR1Same_4_step (k : KT) (n : Nat) (v1 v2 : LI) (v3 : Int) : iterK (n + 1) (codeK Tryd.prog (ER1Same) 40 blpR1Same_4) (head (ER1Same) 4) ⟨[(0, qS v1), (1, qS v2), (5, qI v3)], []⟩ k = lpR1Same_4s (fun v1 v2 v3 => iterK n (codeK Tryd.prog (ER1Same) 40 blpR1Same_4) (head (ER1Same) 4) ⟨[(0, qS v1), (1, qS v2), (5, qI v3)], []⟩ k) (clpR1Same_4_0 k) (clpR1Same_4_1 k) v1 v2 v3 := by kernel_rfl
theorem lpR1Same_4_eq (k : KT) : ∀ (n : Nat), ∀ (v1 v2 : LI) (v3 : Int), iterK n (codeK Tryd.prog (ER1Same) 40 blpR1Same_4) (head (ER1Same) 4) ⟨[(0, qS v1), (1, qS v2), (5, qI v3)], []⟩ k = lpR1Same_4 (clpR1Same_4_0 k) (clpR1Same_4_1 k) n v1 v2 v3
 | 0 => by intros; rfl
 | n + 1 => by
  intros
  rw [lpR1Same_4_step]
  have ih := lpR1Same_4_eq k n
  simp only [lpR1Same_4, ih]
theorem LR1Same_4_ok : ∀ (σ : St) (k : KT) (r : Out), LR1Same_4 σ k = some r -> ∃ n, iterK n (codeK Tryd.prog (ER1Same) 40 blpR1Same_4) (head (ER1Same) 4) σ k = some r := by
 intro σ k r h
 unfold LR1Same_4 at h
 split at h
 ·replace h := cond_some h
  obtain ⟨hc, h⟩ := h
  simp only [Bool.and_eq_true, beq_prop, decide_eq_true_eq, Bool.not_eq_true'] at hc
  obtain ⟨⟨rfl, rfl⟩, rfl⟩ := hc
  rw [shut_eq] at h
  exact ⟨FUEL, (lpR1Same_4_eq k FUEL _ _ _ ).trans h⟩
 ·cases h
theorem loopsR1Same : ∀ c, Tryd.f28.body = some c -> LoopsOk Tryd.prog (ER1Same) 40 c := by
 intro c hc
 cases hc
 exact ⟨trivial, ⟨noneL_ok _ (by kernel_rfl), ⟨⟨trivial, ⟨noneL_ok _ (by kernel_rfl), lp_some rfl (LR1Same_4_ok)⟩, jn_none rfl⟩, ⟨trivial, trivial, jn_none rfl⟩, jn_none rfl⟩, jn_none rfl⟩, jn_none rfl⟩
noncomputable def gR1Same (a : LI) (b : LI) : OO :=
 cond (!decide (((a.length : Nat) : Int) = ((b.length : Nat) : Int))) (
 some (.ret [.cl (.bool false)] []))
 (
 shut (lpR1Same_4
 (fun y1 y2 y3 y4 y5 y6 y7 y8 y9 y10 y11 y12 y13 y14 y15 y16 =>
 some (.ret [.cl (.bool false)] []))
 (fun y17 y18 y19 y20 y21 y22 =>
 some (.ret [.cl (.bool true)] []))
 FUEL) a b 0)
theorem gR1Same_eq (a : LI) (b : LI) : bodyK Tryd.prog (ER1Same) 40 false Tryd.f28 [.cl (.sli .u8 a), .cl (.sli .u8 b)] [] = gR1Same a b := by kernel_rfl

noncomputable def ESClone : Env := {
 orc := fun _ => fun _ _ => Tree.fail
 pre := fun _ => fun _ _ => true
 glob := glVal
 nt := 8
}
theorem loopsSClone : ∀ c, Tryd.f78.body = some c -> LoopsOk Tryd.prog (ESClone) 40 c := by
 intro c hc
 cases hc
 exact noneL_ok _ (by kernel_rfl)
noncomputable def gSClone (b : LI) : OO :=
 cond (Nat.beq b.length 0) (
 bothK (
 some (.ret [.cl (.sli .u8 [])] []))
 (
 let l1 : LI := [] ++ b
 cond (Nat.ble (l1.length * 1) LIMN) (
 cond (Nat.ble l1.length LIMN) (
 some (.ret [.cl (.sli .u8 l1)] [])) none) none))
 (
 let l2 : LI := [] ++ b
 cond (Nat.ble (l2.length * 1) LIMN) (
 cond (Nat.ble l2.length LIMN) (
 some (.ret [.cl (.sli .u8 l2)] [])) none) none)
theorem gSClone_eq (b : LI) : bodyK Tryd.prog (ESClone) 40 false Tryd.f78 [.cl (.sli .u8 b)] [] = gSClone b := by kernel_rfl

end Go.Proofs.YtfkpjbbkdkcdcaaDoorA
