/-
 What the reading of apostille/stamp.digits comes to, printed by a program. Conditions: none.
-/
import Derived.Test.YtfkpjbbkdkcdcaaDoorT1
set_option linter.unusedVariables false
set_option linter.unusedSimpArgs false
set_option maxRecDepth 100000
namespace Go.Proofs.YtfkpjbbkdkcdcaaDoorA
noncomputable def EDigits : Env := {
 orc := fun _ => fun _ _ => Tree.fail
 pre := fun _ => fun _ _ => true
 byref := fun _ => []
 keep := fun _ => false
 live := fun _ => []
 ren := fun _ => []
 glob := glVal
 nt := 31
 lp := fun _ => none
}
theorem loopsDigits : ∀ c, Tryd.f125.body = some c -> LoopsOk Tryd.prog (EDigits) 40 c := by
 intro c hc
 cases hc
 exact ⟨trivial, ⟨trivial, ⟨⟨trivial, ⟨⟨trivial, trivial, jn_none rfl⟩, trivial, jn_none rfl⟩, jn_none rfl⟩, ⟨trivial, trivial, jn_none rfl⟩, jn_none rfl⟩, jn_none rfl⟩, jn_none rfl⟩
noncomputable def gDigits (s : ByteArray) : Option Out :=
 cond (decide ((0 : Int) < ((s.size : Nat) : Int))) (
 let x1 : Int := bget s 0
 let x2 : Int := IntKind.i64.wrap x1
 let x3 : Int := IntKind.i64.wrap (x2 - 48)
 cond (decide ((1 : Int) < ((s.size : Nat) : Int))) (
 let x4 : Int := bget s 1
 let x5 : Int := IntKind.i64.wrap x4
 let x6 : Int := IntKind.i64.wrap (x5 - 48)
 cond (decide (x3 < 0)) (
  some (.ret [.cl (.int .i64 (-100000))] []))
 (
  cond (decide ((9 : Int) < x3)) (
   some (.ret [.cl (.int .i64 (-100000))] []))
  (
   cond (decide (x6 < 0)) (
    some (.ret [.cl (.int .i64 (-100000))] []))
   (
    cond (decide ((9 : Int) < x6)) (
     some (.ret [.cl (.int .i64 (-100000))] []))
    (
     let x7 : Int := IntKind.i64.wrap ((10 : Int) * x3)
     let x8 : Int := IntKind.i64.wrap (x7 + x6)
     some (.ret [.cl (.int .i64 x8)] [])))))) none) none
theorem gDigits_eq (s : ByteArray) : bodyK Tryd.prog (EDigits) 40 false Tryd.f125 [.cl (.str s)] [] = gDigits s := by kernel_rfl
end Go.Proofs.YtfkpjbbkdkcdcaaDoorA

namespace Go.Proofs.YtfkpjbbkdkcdcaaDoorA
noncomputable def EDLeap : Env := {
 orc := fun _ => fun _ _ => Tree.fail
 pre := fun _ => fun _ _ => true
 byref := fun _ => []
 keep := fun _ => false
 live := fun _ => []
 ren := fun _ => []
 glob := glVal
 nt := 19
 lp := fun _ => none
}
theorem loopsDLeap : ∀ c, Tryd.f166.body = some c -> LoopsOk Tryd.prog (EDLeap) 40 c := by
 intro c hc
 cases hc
 exact ⟨trivial, ⟨trivial, trivial, jn_none rfl⟩, jn_none rfl⟩
noncomputable def gDLeap (d0 : Int) (d1 : Int) (d2 : Int) (d3 : Int) (d4 : Int) (d5 : Int) : Option Out :=
 let x1 : Int := Int.tmod d0 4
 cond (decide (x1 = 0)) (
  let x2 : Int := Int.tmod d0 100
  cond (!decide (x2 = 0)) (
   some (.ret [.cl (.bool true)] []))
  (
   let x3 : Int := Int.tmod d0 400
   some (.ret [.cl (.bool (decide (x3 = 0)))] [])))
 (
  some (.ret [.cl (.bool false)] []))
theorem gDLeap_eq (d0 : Int) (d1 : Int) (d2 : Int) (d3 : Int) (d4 : Int) (d5 : Int) : bodyK Tryd.prog (EDLeap) 40 false Tryd.f166 [.cl (.aggi 6 .i64 [d0, d1, d2, d3, d4, d5])] [] = gDLeap d0 d1 d2 d3 d4 d5 := by kernel_rfl
end Go.Proofs.YtfkpjbbkdkcdcaaDoorA

namespace Go.Proofs.YtfkpjbbkdkcdcaaDoorA
noncomputable def EDDays : Env := {
 orc := fun g => cond (Nat.beq g 166) (SDLeap) (fun _ _ => Tree.fail)
 pre := fun g => cond (Nat.beq g 166) (preDLeap) (fun _ _ => true)
 byref := fun _ => []
 keep := fun _ => false
 live := fun _ => []
 ren := fun _ => []
 glob := glVal
 nt := 14
 lp := fun _ => none
}
theorem loopsDDays : ∀ c, Tryd.f156.body = some c -> LoopsOk Tryd.prog (EDDays) 40 c := by
 intro c hc
 cases hc
 exact ⟨trivial, ⟨⟨trivial, ⟨trivial, ⟨⟨⟨trivial, ⟨⟨trivial, trivial, jn_none rfl⟩, trivial, jn_none rfl⟩, jn_none rfl⟩, ⟨trivial, trivial, jn_none rfl⟩, jn_none rfl⟩, ⟨⟨trivial, ⟨trivial, ⟨trivial, ⟨trivial, ⟨trivial, ⟨trivial, trivial, jn_none rfl⟩, jn_none rfl⟩, jn_none rfl⟩, jn_none rfl⟩, jn_none rfl⟩, jn_none rfl⟩, ⟨⟨trivial, trivial, jn_none rfl⟩, trivial, jn_none rfl⟩, jn_none rfl⟩, jn_none rfl⟩, jn_none rfl⟩, jn_none rfl⟩, ⟨trivial, trivial, jn_none rfl⟩, jn_none rfl⟩, jn_none rfl⟩
noncomputable def gDDays (d0 : Int) (d1 : Int) (d2 : Int) (d3 : Int) (d4 : Int) (d5 : Int) : Option Out :=
 cond (decide (d1 = 2)) (
  cond (stOk d0) (
  let r1 : Bool := stLeap d0
  cond (r1) (
   some (.ret [.cl (.int .i64 29)] []))
  (
   some (.ret [.cl (.int .i64 28)] []))) none)
 (
  cond (decide (d1 = 4)) (
   some (.ret [.cl (.int .i64 30)] []))
  (
   cond (decide (d1 = 6)) (
    some (.ret [.cl (.int .i64 30)] []))
   (
    cond (decide (d1 = 9)) (
     some (.ret [.cl (.int .i64 30)] []))
    (
     cond (decide (d1 = 11)) (
      some (.ret [.cl (.int .i64 30)] []))
     (
      some (.ret [.cl (.int .i64 31)] []))))))
theorem gDDays_eq (d0 : Int) (d1 : Int) (d2 : Int) (d3 : Int) (d4 : Int) (d5 : Int) : bodyK Tryd.prog (EDDays) 40 false Tryd.f156 [.cl (.aggi 6 .i64 [d0, d1, d2, d3, d4, d5])] [] = gDDays d0 d1 d2 d3 d4 d5 := by kernel_rfl
end Go.Proofs.YtfkpjbbkdkcdcaaDoorA

namespace Go.Proofs.YtfkpjbbkdkcdcaaDoorA
noncomputable def EDFit : Env := {
 orc := fun g => cond (Nat.beq g 156) (SDDays) (fun _ _ => Tree.fail)
 pre := fun g => cond (Nat.beq g 156) (preDDays) (fun _ _ => true)
 byref := fun _ => []
 keep := fun _ => false
 live := fun _ => []
 ren := fun _ => []
 glob := glVal
 nt := 61
 lp := fun _ => none
}
theorem loopsDFit : ∀ c, Tryd.f126.body = some c -> LoopsOk Tryd.prog (EDFit) 40 c := by
 intro c hc
 cases hc
 exact ⟨trivial, ⟨⟨trivial, ⟨⟨trivial, trivial, jn_none rfl⟩, trivial, jn_none rfl⟩, jn_none rfl⟩, ⟨trivial, trivial, jn_none rfl⟩, jn_none rfl⟩, jn_none rfl⟩
noncomputable def gDFit (d0 : Int) (d1 : Int) (d2 : Int) (d3 : Int) (d4 : Int) (d5 : Int) : Option Out :=
 cond (decide (d0 < 1)) (
  some (.ret [.cl (.bool false)] []))
 (
  cond (decide ((9999 : Int) < d0)) (
   some (.ret [.cl (.bool false)] []))
  (
   cond (decide (d1 < 1)) (
    some (.ret [.cl (.bool false)] []))
   (
    cond (decide ((12 : Int) < d1)) (
     some (.ret [.cl (.bool false)] []))
    (
     cond (decide (d2 < 1)) (
      some (.ret [.cl (.bool false)] []))
     (
      cond (stOk d0) (
      let r1 : Int := stDays d0 d1
      cond (decide (r1 < d2)) (
       some (.ret [.cl (.bool false)] []))
      (
       cond (decide ((0 : Int) <= d3)) (
        cond (decide (d3 < 24)) (
         cond (decide ((0 : Int) <= d4)) (
          cond (decide (d4 < 60)) (
           cond (decide ((0 : Int) <= d5)) (
            some (.ret [.cl (.bool (decide (d5 < 60)))] []))
           (
            some (.ret [.cl (.bool false)] [])))
          (
           some (.ret [.cl (.bool false)] [])))
         (
          some (.ret [.cl (.bool false)] [])))
        (
         some (.ret [.cl (.bool false)] [])))
       (
        some (.ret [.cl (.bool false)] [])))) none)))))
theorem gDFit_eq (d0 : Int) (d1 : Int) (d2 : Int) (d3 : Int) (d4 : Int) (d5 : Int) : bodyK Tryd.prog (EDFit) 40 false Tryd.f126 [.cl (.aggi 6 .i64 [d0, d1, d2, d3, d4, d5])] [] = gDFit d0 d1 d2 d3 d4 d5 := by kernel_rfl
end Go.Proofs.YtfkpjbbkdkcdcaaDoorA

namespace Go.Proofs.YtfkpjbbkdkcdcaaDoorA
noncomputable def EDSecs : Env := {
 orc := fun _ => fun _ _ => Tree.fail
 pre := fun _ => fun _ _ => true
 byref := fun _ => []
 keep := fun _ => false
 live := fun _ => []
 ren := fun _ => []
 glob := glVal
 nt := 59
 lp := fun _ => none
}
theorem loopsDSecs : ∀ c, Tryd.f127.body = some c -> LoopsOk Tryd.prog (EDSecs) 40 c := by
 intro c hc
 cases hc
 exact ⟨trivial, ⟨trivial, ⟨⟨trivial, ⟨trivial, trivial, jn_none rfl⟩, jn_none rfl⟩, ⟨trivial, ⟨trivial, ⟨trivial, ⟨trivial, ⟨trivial, trivial, jn_none rfl⟩, jn_none rfl⟩, jn_none rfl⟩, jn_none rfl⟩, jn_none rfl⟩, jn_none rfl⟩, jn_none rfl⟩, jn_none rfl⟩
noncomputable def gDSecs (d0 : Int) (d1 : Int) (d2 : Int) (d3 : Int) (d4 : Int) (d5 : Int) : Option Out :=
 let x1 : Int := IntKind.i64.wrap (d1 - 3)
 cond (decide (x1 < 0)) (
  let x2 : Int := IntKind.i64.wrap (d0 - 1)
  let x3 : Int := IntKind.i64.wrap (x1 + 12)
  let x4 : Int := IntKind.i64.wrap (Int.tdiv x2 400)
  let x5 : Int := Int.tmod x2 400
  let x6 : Int := IntKind.i64.wrap ((153 : Int) * x3)
  let x7 : Int := IntKind.i64.wrap (x6 + 2)
  let x8 : Int := IntKind.i64.wrap (Int.tdiv x7 5)
  let x9 : Int := IntKind.i64.wrap (x8 + d2)
  let x10 : Int := IntKind.i64.wrap (x9 - 1)
  let x11 : Int := IntKind.i64.wrap (x4 * 146097)
  let x12 : Int := IntKind.i64.wrap (x5 * 365)
  let x13 : Int := IntKind.i64.wrap (x11 + x12)
  let x14 : Int := IntKind.i64.wrap (Int.tdiv x5 4)
  let x15 : Int := IntKind.i64.wrap (x13 + x14)
  let x16 : Int := IntKind.i64.wrap (Int.tdiv x5 100)
  let x17 : Int := IntKind.i64.wrap (x15 - x16)
  let x18 : Int := IntKind.i64.wrap (x17 + x10)
  let x19 : Int := IntKind.i64.wrap (x18 - 719468)
  let x20 : Int := IntKind.i64.wrap (x19 * 86400)
  let x21 : Int := IntKind.i64.wrap (d3 * 3600)
  let x22 : Int := IntKind.i64.wrap (d4 * 60)
  let x23 : Int := IntKind.i64.wrap (x21 + x22)
  let x24 : Int := IntKind.i64.wrap (x23 + d5)
  let x25 : Int := IntKind.i64.wrap (x20 + x24)
  some (.ret [.cl (.int .i64 x25)] []))
 (
  let x26 : Int := IntKind.i64.wrap (Int.tdiv d0 400)
  let x27 : Int := Int.tmod d0 400
  let x28 : Int := IntKind.i64.wrap ((153 : Int) * x1)
  let x29 : Int := IntKind.i64.wrap (x28 + 2)
  let x30 : Int := IntKind.i64.wrap (Int.tdiv x29 5)
  let x31 : Int := IntKind.i64.wrap (x30 + d2)
  let x32 : Int := IntKind.i64.wrap (x31 - 1)
  let x33 : Int := IntKind.i64.wrap (x26 * 146097)
  let x34 : Int := IntKind.i64.wrap (x27 * 365)
  let x35 : Int := IntKind.i64.wrap (x33 + x34)
  let x36 : Int := IntKind.i64.wrap (Int.tdiv x27 4)
  let x37 : Int := IntKind.i64.wrap (x35 + x36)
  let x38 : Int := IntKind.i64.wrap (Int.tdiv x27 100)
  let x39 : Int := IntKind.i64.wrap (x37 - x38)
  let x40 : Int := IntKind.i64.wrap (x39 + x32)
  let x41 : Int := IntKind.i64.wrap (x40 - 719468)
  let x42 : Int := IntKind.i64.wrap (x41 * 86400)
  let x43 : Int := IntKind.i64.wrap (d3 * 3600)
  let x44 : Int := IntKind.i64.wrap (d4 * 60)
  let x45 : Int := IntKind.i64.wrap (x43 + x44)
  let x46 : Int := IntKind.i64.wrap (x45 + d5)
  let x47 : Int := IntKind.i64.wrap (x42 + x46)
  some (.ret [.cl (.int .i64 x47)] []))
theorem gDSecs_eq (d0 : Int) (d1 : Int) (d2 : Int) (d3 : Int) (d4 : Int) (d5 : Int) : bodyK Tryd.prog (EDSecs) 40 false Tryd.f127 [.cl (.aggi 6 .i64 [d0, d1, d2, d3, d4, d5])] [] = gDSecs d0 d1 d2 d3 d4 d5 := by kernel_rfl
end Go.Proofs.YtfkpjbbkdkcdcaaDoorA

namespace Go.Proofs.YtfkpjbbkdkcdcaaDoorA
end Go.Proofs.YtfkpjbbkdkcdcaaDoorA

namespace Go.Proofs.YtfkpjbbkdkcdcaaDoorA
end Go.Proofs.YtfkpjbbkdkcdcaaDoorA

namespace Go.Proofs.YtfkpjbbkdkcdcaaDoorA
end Go.Proofs.YtfkpjbbkdkcdcaaDoorA

namespace Go.Proofs.YtfkpjbbkdkcdcaaDoorA
noncomputable def ESRead : Env := {
 orc := fun g => cond (Nat.beq g 125) (SDigits) (cond (Nat.beq g 126) (SDFit) (cond (Nat.beq g 127) (SDSecs) (fun _ _ => Tree.fail)))
 pre := fun g => cond (Nat.beq g 125) (preDigits) (cond (Nat.beq g 126) (preDFit) (cond (Nat.beq g 127) (preDSecs) (fun _ _ => true)))
 byref := fun _ => []
 keep := fun _ => false
 live := fun r => cond (Nat.beq r 5) ([0, 4, 14]) ([])
 ren := fun _ => []
 glob := glVal
 nt := 38
 lp := fun _ => none
}
theorem loopsSRead : ∀ c, Tryd.f85.body = some c -> LoopsOk Tryd.prog (ESRead) 40 c := by
 intro c hc
 cases hc
 exact ⟨trivial, ⟨⟨trivial, ⟨⟨trivial, trivial, jn_none rfl⟩, trivial, jn_none rfl⟩, jn_none rfl⟩, ⟨trivial, ⟨⟨trivial, ⟨⟨trivial, ⟨⟨trivial, trivial, jn_none rfl⟩, ⟨⟨trivial, trivial, jn_none rfl⟩, trivial, jn_none rfl⟩, jn_none rfl⟩, jn_none rfl⟩, lp_none rfl⟩, jn_none rfl⟩, ⟨trivial, ⟨⟨trivial, ⟨⟨trivial, trivial, jn_none rfl⟩, trivial, jn_none rfl⟩, jn_none rfl⟩, ⟨trivial, trivial, jn_none rfl⟩, jn_none rfl⟩, jn_none rfl⟩, jn_none rfl⟩, jn_none rfl⟩, jn_none rfl⟩, jn_none rfl⟩
noncomputable def gSRead (s : ByteArray) : Option Out :=
 cond (!decide (((s.size : Nat) : Int) = 15)) (
  some (.ret [.cl (.int .i64 0), .cl (.int .i64 1)] []))
 (
  cond (decide ((14 : Int) < ((s.size : Nat) : Int))) (
  let x1 : Int := bget s 14
  cond (!decide (x1 = 90)) (
   some (.ret [.cl (.int .i64 0), .cl (.int .i64 1)] []))
  (
   cond (decide ((2 : Int) <= ((s.size : Nat) : Int))) (
   let s2 : ByteArray := s.extract 2 s.size
   cond (decide (2 <= s2.size)) (
   let r3 : Int := stDigits s2
   cond (decide ((4 : Int) <= ((s.size : Nat) : Int))) (
   let s4 : ByteArray := s.extract 4 s.size
   cond (decide (2 <= s4.size)) (
   let r5 : Int := stDigits s4
   cond (decide ((6 : Int) <= ((s.size : Nat) : Int))) (
   let s6 : ByteArray := s.extract 6 s.size
   cond (decide (2 <= s6.size)) (
   let r7 : Int := stDigits s6
   cond (decide ((8 : Int) <= ((s.size : Nat) : Int))) (
   let s8 : ByteArray := s.extract 8 s.size
   cond (decide (2 <= s8.size)) (
   let r9 : Int := stDigits s8
   cond (decide ((10 : Int) <= ((s.size : Nat) : Int))) (
   let s10 : ByteArray := s.extract 10 s.size
   cond (decide (2 <= s10.size)) (
   let r11 : Int := stDigits s10
   cond (decide ((12 : Int) <= ((s.size : Nat) : Int))) (
   let s12 : ByteArray := s.extract 12 s.size
   cond (decide (2 <= s12.size)) (
   let r13 : Int := stDigits s12
   cond (decide (2 <= s.size)) (
   let r14 : Int := stDigits s
   let x15 : Int := IntKind.i64.wrap ((100 : Int) * r14)
   let x16 : Int := IntKind.i64.wrap (r3 + x15)
   let r17 : Bool := stFit x16 r5 r7 r9 r11 r13
   cond (!r17) (
    some (.ret [.cl (.int .i64 0), .cl (.int .i64 1)] []))
   (
    cond (stFit x16 r5 r7 r9 r11 r13) (
    let r18 : Int := stSecs x16 r5 r7 r9 r11 r13
    some (.ret [.cl (.int .i64 r18), .cl (.int .i64 0)] [])) none)) none) none) none) none) none) none) none) none) none) none) none) none) none)) none)
theorem gSRead_eq (s : ByteArray) : bodyK Tryd.prog (ESRead) 40 false Tryd.f85 [.cl (.str s)] [] = gSRead s := by kernel_rfl
end Go.Proofs.YtfkpjbbkdkcdcaaDoorA

namespace Go.Proofs.YtfkpjbbkdkcdcaaDoorA
end Go.Proofs.YtfkpjbbkdkcdcaaDoorA

namespace Go.Proofs.YtfkpjbbkdkcdcaaDoorA
end Go.Proofs.YtfkpjbbkdkcdcaaDoorA

namespace Go.Proofs.YtfkpjbbkdkcdcaaDoorA
end Go.Proofs.YtfkpjbbkdkcdcaaDoorA

namespace Go.Proofs.YtfkpjbbkdkcdcaaDoorA
end Go.Proofs.YtfkpjbbkdkcdcaaDoorA

namespace Go.Proofs.YtfkpjbbkdkcdcaaDoorA
end Go.Proofs.YtfkpjbbkdkcdcaaDoorA

namespace Go.Proofs.YtfkpjbbkdkcdcaaDoorA
end Go.Proofs.YtfkpjbbkdkcdcaaDoorA

namespace Go.Proofs.YtfkpjbbkdkcdcaaDoorA
end Go.Proofs.YtfkpjbbkdkcdcaaDoorA

namespace Go.Proofs.YtfkpjbbkdkcdcaaDoorA
noncomputable def EDBoxed : Env := {
 orc := fun _ => fun _ _ => Tree.fail
 pre := fun _ => fun _ _ => true
 byref := fun _ => []
 keep := fun _ => false
 live := fun _ => []
 ren := fun _ => []
 glob := glVal
 nt := 17
 lp := fun _ => none
}
theorem loopsDBoxed : ∀ c, Tryd.f100.body = some c -> LoopsOk Tryd.prog (EDBoxed) 40 c := by
 intro c hc
 cases hc
 exact ⟨trivial, ⟨trivial, trivial, jn_none rfl⟩, jn_none rfl⟩
noncomputable def gDBoxed (tag : Int) : Option Out :=
 cond (decide (tag = 48)) (
  some (.ret [.cl (.bool true)] []))
 (
  cond (decide (tag = 49)) (
   some (.ret [.cl (.bool true)] []))
  (
   cond (decide ((160 : Int) <= tag)) (
    some (.ret [.cl (.bool (decide (tag <= 190)))] []))
   (
    some (.ret [.cl (.bool false)] []))))
theorem gDBoxed_eq (tag : Int) : bodyK Tryd.prog (EDBoxed) 40 false Tryd.f100 [.cl (.int .i64 tag)] [] = gDBoxed tag := by kernel_rfl
end Go.Proofs.YtfkpjbbkdkcdcaaDoorA

namespace Go.Proofs.YtfkpjbbkdkcdcaaDoorA
end Go.Proofs.YtfkpjbbkdkcdcaaDoorA

namespace Go.Proofs.YtfkpjbbkdkcdcaaDoorA
noncomputable def EDKnown : Env := {
 orc := fun g => cond (Nat.beq g 100) (SDBoxed) (fun _ _ => Tree.fail)
 pre := fun g => cond (Nat.beq g 100) (preDBoxed) (fun _ _ => true)
 byref := fun _ => []
 keep := fun _ => false
 live := fun _ => []
 ren := fun _ => []
 glob := glVal
 nt := 23
 lp := fun _ => none
}
theorem loopsDKnown : ∀ c, Tryd.f146.body = some c -> LoopsOk Tryd.prog (EDKnown) 40 c := by
 intro c hc
 cases hc
 exact ⟨trivial, ⟨⟨trivial, ⟨⟨trivial, ⟨trivial, ⟨trivial, ⟨trivial, ⟨trivial, ⟨trivial, ⟨trivial, ⟨trivial, ⟨trivial, ⟨trivial, ⟨trivial, ⟨trivial, ⟨trivial, ⟨trivial, trivial, jn_none rfl⟩, jn_none rfl⟩, jn_none rfl⟩, jn_none rfl⟩, jn_none rfl⟩, jn_none rfl⟩, jn_none rfl⟩, jn_none rfl⟩, jn_none rfl⟩, jn_none rfl⟩, jn_none rfl⟩, jn_none rfl⟩, jn_none rfl⟩, jn_none rfl⟩, ⟨⟨trivial, trivial, jn_none rfl⟩, trivial, jn_none rfl⟩, jn_none rfl⟩, jn_none rfl⟩, ⟨trivial, trivial, jn_none rfl⟩, jn_none rfl⟩, jn_none rfl⟩
noncomputable def gDKnown (tag : Int) : Option Out :=
 cond (decide (tag = 1)) (
  some (.ret [.cl (.bool true)] []))
 (
  cond (decide (tag = 2)) (
   some (.ret [.cl (.bool true)] []))
  (
   cond (decide (tag = 3)) (
    some (.ret [.cl (.bool true)] []))
   (
    cond (decide (tag = 4)) (
     some (.ret [.cl (.bool true)] []))
    (
     cond (decide (tag = 5)) (
      some (.ret [.cl (.bool true)] []))
     (
      cond (decide (tag = 6)) (
       some (.ret [.cl (.bool true)] []))
      (
       cond (decide (tag = 12)) (
        some (.ret [.cl (.bool true)] []))
       (
        cond (decide (tag = 24)) (
         some (.ret [.cl (.bool true)] []))
        (
         let r1 : Bool := derBoxed tag
         cond (r1) (
          some (.ret [.cl (.bool true)] []))
         (
          cond (decide ((128 : Int) <= tag)) (
           some (.ret [.cl (.bool (decide (tag <= 158)))] []))
          (
           some (.ret [.cl (.bool false)] [])))))))))))
theorem gDKnown_eq (tag : Int) : bodyK Tryd.prog (EDKnown) 40 false Tryd.f146 [.cl (.int .i64 tag)] [] = gDKnown tag := by kernel_rfl
end Go.Proofs.YtfkpjbbkdkcdcaaDoorA

namespace Go.Proofs.YtfkpjbbkdkcdcaaDoorA
end Go.Proofs.YtfkpjbbkdkcdcaaDoorA

namespace Go.Proofs.YtfkpjbbkdkcdcaaDoorA
noncomputable def EDLenSize : Env := {
 orc := fun _ => fun _ _ => Tree.fail
 pre := fun _ => fun _ _ => true
 byref := fun _ => []
 keep := fun _ => false
 live := fun _ => []
 ren := fun _ => []
 glob := glVal
 nt := 12
 lp := fun _ => none
}
theorem loopsDLenSize : ∀ c, Tryd.f148.body = some c -> LoopsOk Tryd.prog (EDLenSize) 40 c := by
 intro c hc
 cases hc
 exact ⟨trivial, ⟨⟨trivial, ⟨⟨trivial, trivial, jn_none rfl⟩, ⟨trivial, ⟨⟨trivial, trivial, jn_none rfl⟩, ⟨trivial, ⟨⟨trivial, trivial, jn_none rfl⟩, trivial, jn_none rfl⟩, jn_none rfl⟩, jn_none rfl⟩, jn_none rfl⟩, jn_none rfl⟩, jn_none rfl⟩, ⟨trivial, trivial, jn_none rfl⟩, jn_none rfl⟩, jn_none rfl⟩
noncomputable def gDLenSize (n : Int) : Option Out :=
 cond (decide (n < 128)) (
  some (.ret [.cl (.int .i64 1)] []))
 (
  cond (decide (n < 256)) (
   some (.ret [.cl (.int .i64 2)] []))
  (
   cond (decide (n < 65536)) (
    some (.ret [.cl (.int .i64 3)] []))
   (
    some (.ret [.cl (.int .i64 4)] []))))
theorem gDLenSize_eq (n : Int) : bodyK Tryd.prog (EDLenSize) 40 false Tryd.f148 [.cl (.int .i64 n)] [] = gDLenSize n := by kernel_rfl
end Go.Proofs.YtfkpjbbkdkcdcaaDoorA

namespace Go.Proofs.YtfkpjbbkdkcdcaaDoorA
noncomputable def EDNumber : Env := {
 orc := fun _ => fun _ _ => Tree.fail
 pre := fun _ => fun _ _ => true
 byref := fun _ => []
 keep := fun _ => false
 live := fun _ => []
 ren := fun _ => []
 glob := glVal
 nt := 27
 lp := fun _ => none
}
theorem loopsDNumber : ∀ c, Tryd.f159.body = some c -> LoopsOk Tryd.prog (EDNumber) 40 c := by
 intro c hc
 cases hc
 exact ⟨trivial, ⟨⟨trivial, ⟨⟨trivial, trivial, jn_none rfl⟩, trivial, jn_none rfl⟩, jn_none rfl⟩, ⟨trivial, ⟨trivial, trivial, jn_none rfl⟩, jn_none rfl⟩, jn_none rfl⟩, jn_none rfl⟩
noncomputable def gDNumber (b : List Int) : Option Out :=
 cond (decide (((b.length : Nat) : Int) < 2)) (
  some (.ret [.cl (.bool (decide (((b.length : Nat) : Int) = 1)))] []))
 (
  cond (decide ((0 : Int) < ((b.length : Nat) : Int))) (
  Option.bind (b[0]?) fun (e1 : Int) =>
  let x2 : Int := IntKind.u64.wrap e1
  let x3 : Int := IntKind.u64.wrap (x2 * 2 ^ 1)
  cond (decide ((1 : Int) < ((b.length : Nat) : Int))) (
  Option.bind (b[1]?) fun (e4 : Int) =>
  let x5 : Int := IntKind.u64.wrap e4
  let x6 : Int := Int.fdiv x5 (2 ^ 7)
  let x7 : Int := IntKind.u64.wrap ((BitVec.ofInt 64 x3 ||| BitVec.ofInt 64 x6).toNat)
  cond (!decide (x7 = 0)) (
   some (.ret [.cl (.bool (!decide (x7 = 511)))] []))
  (
   some (.ret [.cl (.bool false)] []))) none) none)
theorem gDNumber_eq (b : List Int) : bodyK Tryd.prog (EDNumber) 40 false Tryd.f159 [.cl (.sli .u8 b)] [] = gDNumber b := by kernel_rfl
end Go.Proofs.YtfkpjbbkdkcdcaaDoorA

namespace Go.Proofs.YtfkpjbbkdkcdcaaDoorA
end Go.Proofs.YtfkpjbbkdkcdcaaDoorA

namespace Go.Proofs.YtfkpjbbkdkcdcaaDoorA
noncomputable def EDStrip : Env := {
 orc := fun _ => fun _ _ => Tree.fail
 pre := fun _ => fun _ _ => true
 byref := fun _ => []
 keep := fun _ => false
 live := fun _ => []
 ren := fun _ => []
 glob := glVal
 nt := 32
 lp := fun _ => none
}
theorem loopsDStrip : ∀ c, Tryd.f160.body = some c -> LoopsOk Tryd.prog (EDStrip) 40 c := by
 intro c hc
 cases hc
 exact ⟨trivial, ⟨⟨trivial, ⟨⟨trivial, trivial, jn_none rfl⟩, trivial, jn_none rfl⟩, jn_none rfl⟩, ⟨⟨trivial, ⟨⟨trivial, trivial, jn_none rfl⟩, trivial, jn_none rfl⟩, jn_none rfl⟩, ⟨trivial, trivial, jn_none rfl⟩, jn_none rfl⟩, jn_none rfl⟩, jn_none rfl⟩
noncomputable def gDStrip (b : List Int) : Option Out :=
 cond (decide (((b.length : Nat) : Int) = 0)) (
  some (.ret [.cl (.bool false)] []))
 (
  cond (decide ((0 : Int) < ((b.length : Nat) : Int))) (
  Option.bind (b[0]?) fun (e1 : Int) =>
  cond (decide ((7 : Int) < e1)) (
   some (.ret [.cl (.bool false)] []))
  (
   cond (decide (((b.length : Nat) : Int) = 1)) (
    cond (decide ((0 : Int) < ((b.length : Nat) : Int))) (
    Option.bind (b[0]?) fun (e2 : Int) =>
    some (.ret [.cl (.bool (decide (e2 = 0)))] [])) none)
   (
    let x3 : Int := IntKind.i64.wrap (((b.length : Nat) : Int) - 1)
    cond (decide ((0 : Int) <= x3)) (
    cond (decide (x3 < ((b.length : Nat) : Int))) (
    Option.bind (b[(Int.toNat x3)]?) fun (e4 : Int) =>
    cond (decide ((0 : Int) < ((b.length : Nat) : Int))) (
    Option.bind (b[0]?) fun (e5 : Int) =>
    cond (decide (e5 < 0)) none (
    let x6 : Int := IntKind.u8.wrap (1 * 2 ^ (min e5.toNat 8))
    let x7 : Int := IntKind.u8.wrap (x6 - 1)
    let x8 : Int := IntKind.u8.wrap ((BitVec.ofInt 8 e4 &&& BitVec.ofInt 8 x7).toNat)
    some (.ret [.cl (.bool (decide (x8 = 0)))] []))) none) none) none))) none)
theorem gDStrip_eq (b : List Int) : bodyK Tryd.prog (EDStrip) 40 false Tryd.f160 [.cl (.sli .u8 b)] [] = gDStrip b := by kernel_rfl
end Go.Proofs.YtfkpjbbkdkcdcaaDoorA

namespace Go.Proofs.YtfkpjbbkdkcdcaaDoorA
end Go.Proofs.YtfkpjbbkdkcdcaaDoorA

namespace Go.Proofs.YtfkpjbbkdkcdcaaDoorA
end Go.Proofs.YtfkpjbbkdkcdcaaDoorA

namespace Go.Proofs.YtfkpjbbkdkcdcaaDoorA
end Go.Proofs.YtfkpjbbkdkcdcaaDoorA

namespace Go.Proofs.YtfkpjbbkdkcdcaaDoorA
end Go.Proofs.YtfkpjbbkdkcdcaaDoorA

namespace Go.Proofs.YtfkpjbbkdkcdcaaDoorA
noncomputable def EOFit : Env := {
 orc := fun _ => fun _ _ => Tree.fail
 pre := fun _ => fun _ _ => true
 byref := fun _ => []
 keep := fun _ => false
 live := fun _ => []
 ren := fun _ => []
 glob := glVal
 nt := 31
 lp := fun _ => none
}
theorem loopsOFit : ∀ c, Tryd.f122.body = some c -> LoopsOk Tryd.prog (EOFit) 40 c := by
 intro c hc
 cases hc
 exact ⟨trivial, ⟨⟨trivial, ⟨⟨trivial, trivial, jn_none rfl⟩, ⟨trivial, ⟨⟨trivial, trivial, jn_none rfl⟩, trivial, jn_none rfl⟩, jn_none rfl⟩, jn_none rfl⟩, jn_none rfl⟩, ⟨trivial, trivial, jn_none rfl⟩, jn_none rfl⟩, jn_none rfl⟩
noncomputable def gOFit (o : List Int) : Option Out :=
 cond (decide (((o.length : Nat) : Int) < 2)) (
  some (.ret [.cl (.bool false)] []))
 (
  cond (decide ((20 : Int) < ((o.length : Nat) : Int))) (
   some (.ret [.cl (.bool false)] []))
  (
   cond (decide ((0 : Int) < ((o.length : Nat) : Int))) (
   Option.bind (o[0]?) fun (e1 : Int) =>
   cond (decide ((2 : Int) < e1)) (
    some (.ret [.cl (.bool false)] []))
   (
    cond (decide ((0 : Int) < ((o.length : Nat) : Int))) (
    Option.bind (o[0]?) fun (e2 : Int) =>
    cond (decide (e2 < 2)) (
     cond (decide ((1 : Int) < ((o.length : Nat) : Int))) (
     Option.bind (o[1]?) fun (e3 : Int) =>
     some (.ret [.cl (.bool (decide (e3 < 40)))] [])) none)
    (
     cond (decide ((1 : Int) < ((o.length : Nat) : Int))) (
     Option.bind (o[1]?) fun (e4 : Int) =>
     some (.ret [.cl (.bool (decide (e4 <= 4294967215)))] [])) none)) none)) none))
theorem gOFit_eq (o : List Int) : bodyK Tryd.prog (EOFit) 40 false Tryd.f122 [.cl (.sli .u32 o)] [] = gOFit o := by kernel_rfl
end Go.Proofs.YtfkpjbbkdkcdcaaDoorA

namespace Go.Proofs.YtfkpjbbkdkcdcaaDoorA
end Go.Proofs.YtfkpjbbkdkcdcaaDoorA

namespace Go.Proofs.YtfkpjbbkdkcdcaaDoorA
end Go.Proofs.YtfkpjbbkdkcdcaaDoorA

namespace Go.Proofs.YtfkpjbbkdkcdcaaDoorA
noncomputable def lpONumber_3s (again : Int -> (List Int) -> Int -> Int -> Option Out) (k0 : Int -> Int -> Int -> (List Int) -> Int -> Int -> Int -> (List Int) -> Nat -> Int -> Int -> Bool -> Int -> Bool -> Bool -> Option Out) (k1 : Int -> Int -> Int -> (List Int) -> Int -> Int -> Int -> (List Int) -> Nat -> Int -> Int -> Bool -> Int -> Bool -> Bool -> Int -> Bool -> Option Out) (k2 : Int -> Int -> Int -> Int -> Int -> (List Int) -> Int -> Int -> Int -> (List Int) -> Nat -> Int -> Int -> Bool -> Int -> Bool -> Bool -> Int -> Bool -> Int -> Int -> Int -> Int -> Int -> Int -> Int -> Int -> Int -> Int -> Int -> Int -> Option Out) (k3 : Int -> Int -> Int -> (List Int) -> Int -> Int -> Int -> (List Int) -> Nat -> Int -> Int -> Bool -> Int -> Bool -> Option Out) (k4 : Int -> Int -> Int -> Int -> Int -> (List Int) -> Int -> Int -> Int -> (List Int) -> Nat -> Int -> Int -> Bool -> Int -> Bool -> Int -> Int -> Int -> Int -> Int -> Int -> Int -> Int -> Int -> Int -> Int -> Int -> Option Out) (k5 : Int -> (List Int) -> Int -> Int -> Option Out) (v1 : Int) (v2 : List Int) (v3 : Int) (v4 : Int) : Option Out :=
 cond (decide (v4 < v3)) (
  cond (decide ((0 : Int) <= v4)) (
  cond (decide (v4 < ((v2.length : Nat) : Int))) (
  Option.bind (v2[(Int.toNat v4)]?) fun (e1 : Int) =>
  cond (decide (v4 = 0)) (
   cond (decide (e1 = 128)) (
    k0 v1 v4 e1 v2 v3 v4 v4 v2 (Int.toNat v4) e1 v4 (decide (v4 = 0)) e1 (decide (e1 = 128)) (decide (e1 = 128)))
   (
    cond (decide ((33554431 : Int) < v1)) (
     k1 v1 v4 e1 v2 v3 v4 v4 v2 (Int.toNat v4) e1 v4 (decide (v4 = 0)) e1 (decide (e1 = 128)) (decide (e1 = 128)) v1 (decide ((33554431 : Int) < v1)))
    (
     let x2 : Int := IntKind.u64.wrap (v1 * 2 ^ 7)
     let x3 : Int := IntKind.u8.wrap ((BitVec.ofInt 8 e1 &&& ~~~ BitVec.ofInt 8 128).toNat)
     let x4 : Int := IntKind.u64.wrap x3
     let x5 : Int := IntKind.u64.wrap ((BitVec.ofInt 64 x2 ||| BitVec.ofInt 64 x4).toNat)
     let x6 : Int := IntKind.u8.wrap ((BitVec.ofInt 8 e1 &&& BitVec.ofInt 8 128).toNat)
     cond (decide (x6 = 0)) (
      let x7 : Int := IntKind.u32.wrap x5
      let x8 : Int := IntKind.i64.wrap (v4 + 1)
      k2 x7 x8 x5 v4 e1 v2 v3 v4 v4 v2 (Int.toNat v4) e1 v4 (decide (v4 = 0)) e1 (decide (e1 = 128)) (decide (e1 = 128)) v1 (decide ((33554431 : Int) < v1)) v1 x2 e1 x3 x4 x5 e1 x6 x5 x7 v4 x8)
     (
      let x9 : Int := IntKind.i64.wrap (v4 + 1)
      again x5 v2 v3 x9))))
  (
   cond (decide ((33554431 : Int) < v1)) (
    k3 v1 v4 e1 v2 v3 v4 v4 v2 (Int.toNat v4) e1 v4 (decide (v4 = 0)) v1 (decide ((33554431 : Int) < v1)))
   (
    let x10 : Int := IntKind.u64.wrap (v1 * 2 ^ 7)
    let x11 : Int := IntKind.u8.wrap ((BitVec.ofInt 8 e1 &&& ~~~ BitVec.ofInt 8 128).toNat)
    let x12 : Int := IntKind.u64.wrap x11
    let x13 : Int := IntKind.u64.wrap ((BitVec.ofInt 64 x10 ||| BitVec.ofInt 64 x12).toNat)
    let x14 : Int := IntKind.u8.wrap ((BitVec.ofInt 8 e1 &&& BitVec.ofInt 8 128).toNat)
    cond (decide (x14 = 0)) (
     let x15 : Int := IntKind.u32.wrap x13
     let x16 : Int := IntKind.i64.wrap (v4 + 1)
     k4 x15 x16 x13 v4 e1 v2 v3 v4 v4 v2 (Int.toNat v4) e1 v4 (decide (v4 = 0)) v1 (decide ((33554431 : Int) < v1)) v1 x10 e1 x11 x12 x13 e1 x14 x13 x15 v4 x16)
    (
     let x17 : Int := IntKind.i64.wrap (v4 + 1)
     again x13 v2 v3 x17)))) none) none)
 (
  k5 v1 v2 v3 v4)
noncomputable def lpONumber_3 (k0 : Int -> Int -> Int -> (List Int) -> Int -> Int -> Int -> (List Int) -> Nat -> Int -> Int -> Bool -> Int -> Bool -> Bool -> Option Out) (k1 : Int -> Int -> Int -> (List Int) -> Int -> Int -> Int -> (List Int) -> Nat -> Int -> Int -> Bool -> Int -> Bool -> Bool -> Int -> Bool -> Option Out) (k2 : Int -> Int -> Int -> Int -> Int -> (List Int) -> Int -> Int -> Int -> (List Int) -> Nat -> Int -> Int -> Bool -> Int -> Bool -> Bool -> Int -> Bool -> Int -> Int -> Int -> Int -> Int -> Int -> Int -> Int -> Int -> Int -> Int -> Int -> Option Out) (k3 : Int -> Int -> Int -> (List Int) -> Int -> Int -> Int -> (List Int) -> Nat -> Int -> Int -> Bool -> Int -> Bool -> Option Out) (k4 : Int -> Int -> Int -> Int -> Int -> (List Int) -> Int -> Int -> Int -> (List Int) -> Nat -> Int -> Int -> Bool -> Int -> Bool -> Int -> Int -> Int -> Int -> Int -> Int -> Int -> Int -> Int -> Int -> Int -> Int -> Option Out) (k5 : Int -> (List Int) -> Int -> Int -> Option Out) : Nat -> Int -> (List Int) -> Int -> Int -> Option Out
 | 0 => fun _ _ _ _ => none
 | n + 1 => lpONumber_3s (lpONumber_3 k0 k1 k2 k3 k4 k5 n) k0 k1 k2 k3 k4 k5
noncomputable def LONumber_3 : St -> (Ex -> St -> Option Out) -> Option Out := fun σ k => match σ with
 | ⟨[(q1, .cl (.int .u64 v1)), (q2, .cl (.sli .u8 v2)), (q3, .cl (.int .i64 v3)), (q4, .cl (.int .i64 v4))], []⟩ => cond (Nat.beq q1 4 && Nat.beq q2 7 && Nat.beq q3 8 && Nat.beq q4 9) (shut (lpONumber_3 (fun y1 y2 y3 y4 y5 y6 y7 y8 y9 y10 y11 y12 y13 y14 y15 => k .ret ⟨[(2, .cl (.int .u32 0)), (3, .cl (.int .i64 0)), (4, .cl (.int .u64 y1)), (5, .cl (.int .i64 y2)), (6, .cl (.int .u8 y3)), (7, .cl (.sli .u8 y4)), (8, .cl (.int .i64 y5)), (9, .cl (.int .i64 y6)), (10, .cl (.bool true)), (11, .cl (.int .i64 y7)), (12, .cl (.vp (.sli .u8 y8) y9 0)), (13, .cl (.int .u8 y10)), (14, .cl (.int .i64 y11)), (15, .cl (.bool y12)), (16, .cl (.bool true)), (17, .cl (.int .u8 y13)), (18, .cl (.bool y14)), (19, .cl (.bool y15)), (20, .cl (.bool true)), (21, .tup []), (22, .tup []), (23, .cl (.bool true))], []⟩) (fun y1 y2 y3 y4 y5 y6 y7 y8 y9 y10 y11 y12 y13 y14 y15 y16 y17 => k .ret ⟨[(2, .cl (.int .u32 0)), (3, .cl (.int .i64 0)), (4, .cl (.int .u64 y1)), (5, .cl (.int .i64 y2)), (6, .cl (.int .u8 y3)), (7, .cl (.sli .u8 y4)), (8, .cl (.int .i64 y5)), (9, .cl (.int .i64 y6)), (10, .cl (.bool true)), (11, .cl (.int .i64 y7)), (12, .cl (.vp (.sli .u8 y8) y9 0)), (13, .cl (.int .u8 y10)), (14, .cl (.int .i64 y11)), (15, .cl (.bool y12)), (16, .cl (.bool true)), (17, .cl (.int .u8 y13)), (18, .cl (.bool y14)), (19, .cl (.bool y15)), (20, .cl (.bool false)), (21, .cl (.int .u64 y16)), (22, .cl (.bool y17)), (23, .cl (.bool true))], []⟩) (fun y1 y2 y3 y4 y5 y6 y7 y8 y9 y10 y11 y12 y13 y14 y15 y16 y17 y18 y19 y20 y21 y22 y23 y24 y25 y26 y27 y28 y29 y30 y31 => k .ret ⟨[(2, .cl (.int .u32 y1)), (3, .cl (.int .i64 y2)), (4, .cl (.int .u64 y3)), (5, .cl (.int .i64 y4)), (6, .cl (.int .u8 y5)), (7, .cl (.sli .u8 y6)), (8, .cl (.int .i64 y7)), (9, .cl (.int .i64 y8)), (10, .cl (.bool true)), (11, .cl (.int .i64 y9)), (12, .cl (.vp (.sli .u8 y10) y11 0)), (13, .cl (.int .u8 y12)), (14, .cl (.int .i64 y13)), (15, .cl (.bool y14)), (16, .cl (.bool true)), (17, .cl (.int .u8 y15)), (18, .cl (.bool y16)), (19, .cl (.bool y17)), (20, .cl (.bool false)), (21, .cl (.int .u64 y18)), (22, .cl (.bool y19)), (23, .cl (.bool false)), (24, .cl (.int .u64 y20)), (25, .cl (.int .u64 y21)), (26, .cl (.int .u8 y22)), (27, .cl (.int .u8 y23)), (28, .cl (.int .u64 y24)), (29, .cl (.int .u64 y25)), (30, .cl (.int .u8 y26)), (31, .cl (.int .u8 y27)), (32, .cl (.bool true)), (33, .cl (.int .u64 y28)), (34, .cl (.int .u32 y29)), (35, .cl (.int .i64 y30)), (36, .cl (.int .i64 y31))], []⟩) (fun y1 y2 y3 y4 y5 y6 y7 y8 y9 y10 y11 y12 y13 y14 => k .ret ⟨[(2, .cl (.int .u32 0)), (3, .cl (.int .i64 0)), (4, .cl (.int .u64 y1)), (5, .cl (.int .i64 y2)), (6, .cl (.int .u8 y3)), (7, .cl (.sli .u8 y4)), (8, .cl (.int .i64 y5)), (9, .cl (.int .i64 y6)), (10, .cl (.bool true)), (11, .cl (.int .i64 y7)), (12, .cl (.vp (.sli .u8 y8) y9 0)), (13, .cl (.int .u8 y10)), (14, .cl (.int .i64 y11)), (15, .cl (.bool y12)), (16, .cl (.bool false)), (17, .tup []), (18, .tup []), (19, .cl (.bool false)), (20, .cl (.bool false)), (21, .cl (.int .u64 y13)), (22, .cl (.bool y14)), (23, .cl (.bool true))], []⟩) (fun y1 y2 y3 y4 y5 y6 y7 y8 y9 y10 y11 y12 y13 y14 y15 y16 y17 y18 y19 y20 y21 y22 y23 y24 y25 y26 y27 y28 => k .ret ⟨[(2, .cl (.int .u32 y1)), (3, .cl (.int .i64 y2)), (4, .cl (.int .u64 y3)), (5, .cl (.int .i64 y4)), (6, .cl (.int .u8 y5)), (7, .cl (.sli .u8 y6)), (8, .cl (.int .i64 y7)), (9, .cl (.int .i64 y8)), (10, .cl (.bool true)), (11, .cl (.int .i64 y9)), (12, .cl (.vp (.sli .u8 y10) y11 0)), (13, .cl (.int .u8 y12)), (14, .cl (.int .i64 y13)), (15, .cl (.bool y14)), (16, .cl (.bool false)), (17, .tup []), (18, .tup []), (19, .cl (.bool false)), (20, .cl (.bool false)), (21, .cl (.int .u64 y15)), (22, .cl (.bool y16)), (23, .cl (.bool false)), (24, .cl (.int .u64 y17)), (25, .cl (.int .u64 y18)), (26, .cl (.int .u8 y19)), (27, .cl (.int .u8 y20)), (28, .cl (.int .u64 y21)), (29, .cl (.int .u64 y22)), (30, .cl (.int .u8 y23)), (31, .cl (.int .u8 y24)), (32, .cl (.bool true)), (33, .cl (.int .u64 y25)), (34, .cl (.int .u32 y26)), (35, .cl (.int .i64 y27)), (36, .cl (.int .i64 y28))], []⟩) (fun y1 y2 y3 y4 => k (.exit 0) ⟨[(4, .cl (.int .u64 y1)), (7, .cl (.sli .u8 y2)), (8, .cl (.int .i64 y3)), (9, .cl (.int .i64 y4)), (10, .cl (.bool false))], []⟩) FUEL) v1 v2 v3 v4) none
 | _ => none
noncomputable def EONumber : Env := {
 orc := fun _ => fun _ _ => Tree.fail
 pre := fun _ => fun _ _ => true
 byref := fun _ => []
 keep := fun _ => false
 live := fun r => cond (Nat.beq r 3) ([4, 7, 8, 9]) ([])
 ren := fun _ => []
 glob := glVal
 nt := 38
 lp := fun r => cond (Nat.beq r 3) (some (LONumber_3)) (none)
}
noncomputable def blpONumber_3 : Code := (Cd.fst (Cd.fst (Cd.snd (Cd.fst (Cd.snd (Cd.snd (Tryd.f155.body.getD .skip)))))))
theorem lpONumber_3_step (k : Ex -> St -> Option Out) (n : Nat) (v1 : Int) (v2 : List Int) (v3 : Int) (v4 : Int) : iterK (n + 1) (codeK Tryd.prog (EONumber) 40 blpONumber_3) (head (EONumber) 3) ⟨[(4, .cl (.int .u64 v1)), (7, .cl (.sli .u8 v2)), (8, .cl (.int .i64 v3)), (9, .cl (.int .i64 v4))], []⟩ k = lpONumber_3s (fun v1 v2 v3 v4 => iterK n (codeK Tryd.prog (EONumber) 40 blpONumber_3) (head (EONumber) 3) ⟨[(4, .cl (.int .u64 v1)), (7, .cl (.sli .u8 v2)), (8, .cl (.int .i64 v3)), (9, .cl (.int .i64 v4))], []⟩ k) (fun y1 y2 y3 y4 y5 y6 y7 y8 y9 y10 y11 y12 y13 y14 y15 => k .ret ⟨[(2, .cl (.int .u32 0)), (3, .cl (.int .i64 0)), (4, .cl (.int .u64 y1)), (5, .cl (.int .i64 y2)), (6, .cl (.int .u8 y3)), (7, .cl (.sli .u8 y4)), (8, .cl (.int .i64 y5)), (9, .cl (.int .i64 y6)), (10, .cl (.bool true)), (11, .cl (.int .i64 y7)), (12, .cl (.vp (.sli .u8 y8) y9 0)), (13, .cl (.int .u8 y10)), (14, .cl (.int .i64 y11)), (15, .cl (.bool y12)), (16, .cl (.bool true)), (17, .cl (.int .u8 y13)), (18, .cl (.bool y14)), (19, .cl (.bool y15)), (20, .cl (.bool true)), (21, .tup []), (22, .tup []), (23, .cl (.bool true))], []⟩) (fun y1 y2 y3 y4 y5 y6 y7 y8 y9 y10 y11 y12 y13 y14 y15 y16 y17 => k .ret ⟨[(2, .cl (.int .u32 0)), (3, .cl (.int .i64 0)), (4, .cl (.int .u64 y1)), (5, .cl (.int .i64 y2)), (6, .cl (.int .u8 y3)), (7, .cl (.sli .u8 y4)), (8, .cl (.int .i64 y5)), (9, .cl (.int .i64 y6)), (10, .cl (.bool true)), (11, .cl (.int .i64 y7)), (12, .cl (.vp (.sli .u8 y8) y9 0)), (13, .cl (.int .u8 y10)), (14, .cl (.int .i64 y11)), (15, .cl (.bool y12)), (16, .cl (.bool true)), (17, .cl (.int .u8 y13)), (18, .cl (.bool y14)), (19, .cl (.bool y15)), (20, .cl (.bool false)), (21, .cl (.int .u64 y16)), (22, .cl (.bool y17)), (23, .cl (.bool true))], []⟩) (fun y1 y2 y3 y4 y5 y6 y7 y8 y9 y10 y11 y12 y13 y14 y15 y16 y17 y18 y19 y20 y21 y22 y23 y24 y25 y26 y27 y28 y29 y30 y31 => k .ret ⟨[(2, .cl (.int .u32 y1)), (3, .cl (.int .i64 y2)), (4, .cl (.int .u64 y3)), (5, .cl (.int .i64 y4)), (6, .cl (.int .u8 y5)), (7, .cl (.sli .u8 y6)), (8, .cl (.int .i64 y7)), (9, .cl (.int .i64 y8)), (10, .cl (.bool true)), (11, .cl (.int .i64 y9)), (12, .cl (.vp (.sli .u8 y10) y11 0)), (13, .cl (.int .u8 y12)), (14, .cl (.int .i64 y13)), (15, .cl (.bool y14)), (16, .cl (.bool true)), (17, .cl (.int .u8 y15)), (18, .cl (.bool y16)), (19, .cl (.bool y17)), (20, .cl (.bool false)), (21, .cl (.int .u64 y18)), (22, .cl (.bool y19)), (23, .cl (.bool false)), (24, .cl (.int .u64 y20)), (25, .cl (.int .u64 y21)), (26, .cl (.int .u8 y22)), (27, .cl (.int .u8 y23)), (28, .cl (.int .u64 y24)), (29, .cl (.int .u64 y25)), (30, .cl (.int .u8 y26)), (31, .cl (.int .u8 y27)), (32, .cl (.bool true)), (33, .cl (.int .u64 y28)), (34, .cl (.int .u32 y29)), (35, .cl (.int .i64 y30)), (36, .cl (.int .i64 y31))], []⟩) (fun y1 y2 y3 y4 y5 y6 y7 y8 y9 y10 y11 y12 y13 y14 => k .ret ⟨[(2, .cl (.int .u32 0)), (3, .cl (.int .i64 0)), (4, .cl (.int .u64 y1)), (5, .cl (.int .i64 y2)), (6, .cl (.int .u8 y3)), (7, .cl (.sli .u8 y4)), (8, .cl (.int .i64 y5)), (9, .cl (.int .i64 y6)), (10, .cl (.bool true)), (11, .cl (.int .i64 y7)), (12, .cl (.vp (.sli .u8 y8) y9 0)), (13, .cl (.int .u8 y10)), (14, .cl (.int .i64 y11)), (15, .cl (.bool y12)), (16, .cl (.bool false)), (17, .tup []), (18, .tup []), (19, .cl (.bool false)), (20, .cl (.bool false)), (21, .cl (.int .u64 y13)), (22, .cl (.bool y14)), (23, .cl (.bool true))], []⟩) (fun y1 y2 y3 y4 y5 y6 y7 y8 y9 y10 y11 y12 y13 y14 y15 y16 y17 y18 y19 y20 y21 y22 y23 y24 y25 y26 y27 y28 => k .ret ⟨[(2, .cl (.int .u32 y1)), (3, .cl (.int .i64 y2)), (4, .cl (.int .u64 y3)), (5, .cl (.int .i64 y4)), (6, .cl (.int .u8 y5)), (7, .cl (.sli .u8 y6)), (8, .cl (.int .i64 y7)), (9, .cl (.int .i64 y8)), (10, .cl (.bool true)), (11, .cl (.int .i64 y9)), (12, .cl (.vp (.sli .u8 y10) y11 0)), (13, .cl (.int .u8 y12)), (14, .cl (.int .i64 y13)), (15, .cl (.bool y14)), (16, .cl (.bool false)), (17, .tup []), (18, .tup []), (19, .cl (.bool false)), (20, .cl (.bool false)), (21, .cl (.int .u64 y15)), (22, .cl (.bool y16)), (23, .cl (.bool false)), (24, .cl (.int .u64 y17)), (25, .cl (.int .u64 y18)), (26, .cl (.int .u8 y19)), (27, .cl (.int .u8 y20)), (28, .cl (.int .u64 y21)), (29, .cl (.int .u64 y22)), (30, .cl (.int .u8 y23)), (31, .cl (.int .u8 y24)), (32, .cl (.bool true)), (33, .cl (.int .u64 y25)), (34, .cl (.int .u32 y26)), (35, .cl (.int .i64 y27)), (36, .cl (.int .i64 y28))], []⟩) (fun y1 y2 y3 y4 => k (.exit 0) ⟨[(4, .cl (.int .u64 y1)), (7, .cl (.sli .u8 y2)), (8, .cl (.int .i64 y3)), (9, .cl (.int .i64 y4)), (10, .cl (.bool false))], []⟩) v1 v2 v3 v4 := by kernel_rfl
theorem lpONumber_3_eq (k : Ex -> St -> Option Out) : ∀ (n : Nat), ∀ (v1 : Int) (v2 : List Int) (v3 : Int) (v4 : Int), iterK n (codeK Tryd.prog (EONumber) 40 blpONumber_3) (head (EONumber) 3) ⟨[(4, .cl (.int .u64 v1)), (7, .cl (.sli .u8 v2)), (8, .cl (.int .i64 v3)), (9, .cl (.int .i64 v4))], []⟩ k = lpONumber_3 (fun y1 y2 y3 y4 y5 y6 y7 y8 y9 y10 y11 y12 y13 y14 y15 => k .ret ⟨[(2, .cl (.int .u32 0)), (3, .cl (.int .i64 0)), (4, .cl (.int .u64 y1)), (5, .cl (.int .i64 y2)), (6, .cl (.int .u8 y3)), (7, .cl (.sli .u8 y4)), (8, .cl (.int .i64 y5)), (9, .cl (.int .i64 y6)), (10, .cl (.bool true)), (11, .cl (.int .i64 y7)), (12, .cl (.vp (.sli .u8 y8) y9 0)), (13, .cl (.int .u8 y10)), (14, .cl (.int .i64 y11)), (15, .cl (.bool y12)), (16, .cl (.bool true)), (17, .cl (.int .u8 y13)), (18, .cl (.bool y14)), (19, .cl (.bool y15)), (20, .cl (.bool true)), (21, .tup []), (22, .tup []), (23, .cl (.bool true))], []⟩) (fun y1 y2 y3 y4 y5 y6 y7 y8 y9 y10 y11 y12 y13 y14 y15 y16 y17 => k .ret ⟨[(2, .cl (.int .u32 0)), (3, .cl (.int .i64 0)), (4, .cl (.int .u64 y1)), (5, .cl (.int .i64 y2)), (6, .cl (.int .u8 y3)), (7, .cl (.sli .u8 y4)), (8, .cl (.int .i64 y5)), (9, .cl (.int .i64 y6)), (10, .cl (.bool true)), (11, .cl (.int .i64 y7)), (12, .cl (.vp (.sli .u8 y8) y9 0)), (13, .cl (.int .u8 y10)), (14, .cl (.int .i64 y11)), (15, .cl (.bool y12)), (16, .cl (.bool true)), (17, .cl (.int .u8 y13)), (18, .cl (.bool y14)), (19, .cl (.bool y15)), (20, .cl (.bool false)), (21, .cl (.int .u64 y16)), (22, .cl (.bool y17)), (23, .cl (.bool true))], []⟩) (fun y1 y2 y3 y4 y5 y6 y7 y8 y9 y10 y11 y12 y13 y14 y15 y16 y17 y18 y19 y20 y21 y22 y23 y24 y25 y26 y27 y28 y29 y30 y31 => k .ret ⟨[(2, .cl (.int .u32 y1)), (3, .cl (.int .i64 y2)), (4, .cl (.int .u64 y3)), (5, .cl (.int .i64 y4)), (6, .cl (.int .u8 y5)), (7, .cl (.sli .u8 y6)), (8, .cl (.int .i64 y7)), (9, .cl (.int .i64 y8)), (10, .cl (.bool true)), (11, .cl (.int .i64 y9)), (12, .cl (.vp (.sli .u8 y10) y11 0)), (13, .cl (.int .u8 y12)), (14, .cl (.int .i64 y13)), (15, .cl (.bool y14)), (16, .cl (.bool true)), (17, .cl (.int .u8 y15)), (18, .cl (.bool y16)), (19, .cl (.bool y17)), (20, .cl (.bool false)), (21, .cl (.int .u64 y18)), (22, .cl (.bool y19)), (23, .cl (.bool false)), (24, .cl (.int .u64 y20)), (25, .cl (.int .u64 y21)), (26, .cl (.int .u8 y22)), (27, .cl (.int .u8 y23)), (28, .cl (.int .u64 y24)), (29, .cl (.int .u64 y25)), (30, .cl (.int .u8 y26)), (31, .cl (.int .u8 y27)), (32, .cl (.bool true)), (33, .cl (.int .u64 y28)), (34, .cl (.int .u32 y29)), (35, .cl (.int .i64 y30)), (36, .cl (.int .i64 y31))], []⟩) (fun y1 y2 y3 y4 y5 y6 y7 y8 y9 y10 y11 y12 y13 y14 => k .ret ⟨[(2, .cl (.int .u32 0)), (3, .cl (.int .i64 0)), (4, .cl (.int .u64 y1)), (5, .cl (.int .i64 y2)), (6, .cl (.int .u8 y3)), (7, .cl (.sli .u8 y4)), (8, .cl (.int .i64 y5)), (9, .cl (.int .i64 y6)), (10, .cl (.bool true)), (11, .cl (.int .i64 y7)), (12, .cl (.vp (.sli .u8 y8) y9 0)), (13, .cl (.int .u8 y10)), (14, .cl (.int .i64 y11)), (15, .cl (.bool y12)), (16, .cl (.bool false)), (17, .tup []), (18, .tup []), (19, .cl (.bool false)), (20, .cl (.bool false)), (21, .cl (.int .u64 y13)), (22, .cl (.bool y14)), (23, .cl (.bool true))], []⟩) (fun y1 y2 y3 y4 y5 y6 y7 y8 y9 y10 y11 y12 y13 y14 y15 y16 y17 y18 y19 y20 y21 y22 y23 y24 y25 y26 y27 y28 => k .ret ⟨[(2, .cl (.int .u32 y1)), (3, .cl (.int .i64 y2)), (4, .cl (.int .u64 y3)), (5, .cl (.int .i64 y4)), (6, .cl (.int .u8 y5)), (7, .cl (.sli .u8 y6)), (8, .cl (.int .i64 y7)), (9, .cl (.int .i64 y8)), (10, .cl (.bool true)), (11, .cl (.int .i64 y9)), (12, .cl (.vp (.sli .u8 y10) y11 0)), (13, .cl (.int .u8 y12)), (14, .cl (.int .i64 y13)), (15, .cl (.bool y14)), (16, .cl (.bool false)), (17, .tup []), (18, .tup []), (19, .cl (.bool false)), (20, .cl (.bool false)), (21, .cl (.int .u64 y15)), (22, .cl (.bool y16)), (23, .cl (.bool false)), (24, .cl (.int .u64 y17)), (25, .cl (.int .u64 y18)), (26, .cl (.int .u8 y19)), (27, .cl (.int .u8 y20)), (28, .cl (.int .u64 y21)), (29, .cl (.int .u64 y22)), (30, .cl (.int .u8 y23)), (31, .cl (.int .u8 y24)), (32, .cl (.bool true)), (33, .cl (.int .u64 y25)), (34, .cl (.int .u32 y26)), (35, .cl (.int .i64 y27)), (36, .cl (.int .i64 y28))], []⟩) (fun y1 y2 y3 y4 => k (.exit 0) ⟨[(4, .cl (.int .u64 y1)), (7, .cl (.sli .u8 y2)), (8, .cl (.int .i64 y3)), (9, .cl (.int .i64 y4)), (10, .cl (.bool false))], []⟩) n v1 v2 v3 v4
 | 0 => by intros; rfl
 | n + 1 => by
  intros
  rw [lpONumber_3_step]
  have ih := lpONumber_3_eq k n
  simp only [lpONumber_3, ih]
theorem LONumber_3_ok : ∀ (σ : St) (k : Ex -> St -> Option Out) (r : Out), LONumber_3 σ k = some r -> ∃ n, iterK n (codeK Tryd.prog (EONumber) 40 blpONumber_3) (head (EONumber) 3) σ k = some r := by
 intro σ k r h
 unfold LONumber_3 at h
 split at h
 ·replace h := cond_some h
  obtain ⟨hc, h⟩ := h
  simp only [Bool.and_eq_true, beq_prop, decide_eq_true_eq, Bool.not_eq_true'] at hc
  obtain ⟨⟨⟨rfl, rfl⟩, rfl⟩, rfl⟩ := hc
  rw [shut_eq] at h
  exact ⟨FUEL, (lpONumber_3_eq k FUEL _ _ _ _ ).trans h⟩
 ·cases h
theorem loopsONumber : ∀ c, Tryd.f155.body = some c -> LoopsOk Tryd.prog (EONumber) 40 c := by
 intro c hc
 cases hc
 exact ⟨trivial, ⟨trivial, ⟨⟨trivial, ⟨⟨trivial, ⟨⟨trivial, trivial, jn_none rfl⟩, ⟨⟨trivial, ⟨⟨trivial, ⟨⟨trivial, trivial, jn_none rfl⟩, trivial, jn_none rfl⟩, jn_none rfl⟩, ⟨trivial, ⟨trivial, ⟨⟨trivial, trivial, jn_none rfl⟩, trivial, jn_none rfl⟩, jn_none rfl⟩, jn_none rfl⟩, jn_none rfl⟩, jn_none rfl⟩, trivial, jn_none rfl⟩, jn_none rfl⟩, jn_none rfl⟩, lp_some rfl (LONumber_3_ok)⟩, jn_none rfl⟩, ⟨trivial, trivial, jn_none rfl⟩, jn_none rfl⟩, jn_none rfl⟩, jn_none rfl⟩
noncomputable def gONumber (b : List Int) : Option Out :=
 shut (lpONumber_3
 (fun (y1 : Int) (y2 : Int) (y3 : Int) (y4 : List Int) (y5 : Int) (y6 : Int) (y7 : Int) (y8 : List Int) (y9 : Nat) (y10 : Int) (y11 : Int) (y12 : Bool) (y13 : Int) (y14 : Bool) (y15 : Bool) =>
  some (.ret [.cl (.int .u32 0), .cl (.int .i64 0)] []))
 (fun (y16 : Int) (y17 : Int) (y18 : Int) (y19 : List Int) (y20 : Int) (y21 : Int) (y22 : Int) (y23 : List Int) (y24 : Nat) (y25 : Int) (y26 : Int) (y27 : Bool) (y28 : Int) (y29 : Bool) (y30 : Bool) (y31 : Int) (y32 : Bool) =>
  some (.ret [.cl (.int .u32 0), .cl (.int .i64 0)] []))
 (fun (y33 : Int) (y34 : Int) (y35 : Int) (y36 : Int) (y37 : Int) (y38 : List Int) (y39 : Int) (y40 : Int) (y41 : Int) (y42 : List Int) (y43 : Nat) (y44 : Int) (y45 : Int) (y46 : Bool) (y47 : Int) (y48 : Bool) (y49 : Bool) (y50 : Int) (y51 : Bool) (y52 : Int) (y53 : Int) (y54 : Int) (y55 : Int) (y56 : Int) (y57 : Int) (y58 : Int) (y59 : Int) (y60 : Int) (y61 : Int) (y62 : Int) (y63 : Int) =>
  some (.ret [.cl (.int .u32 y33), .cl (.int .i64 y34)] []))
 (fun (y64 : Int) (y65 : Int) (y66 : Int) (y67 : List Int) (y68 : Int) (y69 : Int) (y70 : Int) (y71 : List Int) (y72 : Nat) (y73 : Int) (y74 : Int) (y75 : Bool) (y76 : Int) (y77 : Bool) =>
  some (.ret [.cl (.int .u32 0), .cl (.int .i64 0)] []))
 (fun (y78 : Int) (y79 : Int) (y80 : Int) (y81 : Int) (y82 : Int) (y83 : List Int) (y84 : Int) (y85 : Int) (y86 : Int) (y87 : List Int) (y88 : Nat) (y89 : Int) (y90 : Int) (y91 : Bool) (y92 : Int) (y93 : Bool) (y94 : Int) (y95 : Int) (y96 : Int) (y97 : Int) (y98 : Int) (y99 : Int) (y100 : Int) (y101 : Int) (y102 : Int) (y103 : Int) (y104 : Int) (y105 : Int) =>
  some (.ret [.cl (.int .u32 y78), .cl (.int .i64 y79)] []))
 (fun (y106 : Int) (y107 : List Int) (y108 : Int) (y109 : Int) =>
  some (.ret [.cl (.int .u32 0), .cl (.int .i64 0)] []))
 FUEL) 0 b ((b.length : Nat) : Int) 0
theorem gONumber_eq (b : List Int) : bodyK Tryd.prog (EONumber) 40 false Tryd.f155 [.cl (.sli .u8 b)] [] = gONumber b := by kernel_rfl
end Go.Proofs.YtfkpjbbkdkcdcaaDoorA

namespace Go.Proofs.YtfkpjbbkdkcdcaaDoorA
noncomputable def EONumbers : Env := {
 orc := fun _ => fun _ _ => Tree.fail
 pre := fun _ => fun _ _ => true
 byref := fun _ => []
 keep := fun _ => false
 live := fun _ => []
 ren := fun _ => []
 glob := glVal
 nt := 4
 lp := fun _ => none
}
theorem loopsONumbers : ∀ c, Tryd.f121.body = some c -> LoopsOk Tryd.prog (EONumbers) 40 c := by
 intro c hc
 cases hc
 exact ⟨trivial, ⟨trivial, trivial, jn_none rfl⟩, jn_none rfl⟩
noncomputable def gONumbers (b : List Int) : Option Out :=
 some (.ret [.fn (.func 154) [] [.ptr 0 0 0]] [some ⟨.var [.cl (.sli .u8 b)], false⟩])
theorem gONumbers_eq (b : List Int) : bodyK Tryd.prog (EONumbers) 40 true Tryd.f121 [.cl (.sli .u8 b)] [] = gONumbers b := by kernel_rfl
end Go.Proofs.YtfkpjbbkdkcdcaaDoorA

namespace Go.Proofs.YtfkpjbbkdkcdcaaDoorA
noncomputable def rlOParse_3s (again : Nat -> (List Int) -> Option Out) (k0 : Nat -> (List Int) -> Option Out) (k1 : Nat -> (List Int) -> Option Out) (e1 : Int) (e2 : Bool) (v1 : Nat) (v2 : List Int) : Option Out :=
 cond (!e2) (
  k0 v1 v2)
 (
  cond (decide ((20 : Int) < ((v1 : Nat) : Int))) (
   k0 v1 v2)
  (
   cond (decide (((v1 : Nat) : Int) = 0)) (
    let x1 : Int := IntKind.u32.wrap (Int.tdiv e1 40)
    let x2 : Int := cond (decide ((2 : Int) < x1)) 2 x1
    let l3 : List Int := v2 ++ [x2]
    cond (Nat.ble (l3.length * 4) LIMN) (
    cond (Nat.ble l3.length LIMN) (
    let x4 : Int := IntKind.u32.wrap ((40 : Int) * x2)
    let x5 : Int := IntKind.u32.wrap (e1 - x4)
    let l6 : List Int := l3 ++ [x5]
    cond (Nat.ble (l6.length * 4) LIMN) (
    cond (Nat.ble l6.length LIMN) (
    again l6.length l6) none) none) none) none)
   (
    let l7 : List Int := v2 ++ [e1]
    cond (Nat.ble (l7.length * 4) LIMN) (
    cond (Nat.ble l7.length LIMN) (
    again l7.length l7) none) none)))
noncomputable def rlOParse_3 (k0 : Nat -> (List Int) -> Option Out) (k1 : Nat -> (List Int) -> Option Out) : List (List CV) -> Nat -> (List Int) -> Option Out
 | [] => fun v1 v2 => k1 v1 v2
 | x :: r => rlOParse_3s (rlOParse_3 k0 k1 r) k0 k1 (cvInt (x.getD 0 .nili)) (cvBool (x.getD 1 .nili))
noncomputable def ROParse_3 : St -> List (List CV) -> (Ex -> St -> Option Out) -> Option Out := fun σ xs k => match σ with
 | ⟨[(q1, .ptr q2 q3 q4), (q5, .ptr q6 q7 q8), (q9, .ptr q10 q11 q12)], [(q13, ⟨.var [.nils], false⟩), (q14, ⟨.var [.cl (.int .i64 q15)], false⟩), (q16, ⟨.var [.ref q17 q18 v1 true q19], false⟩), (q20, ⟨.ints .u32 v2, false⟩)]⟩ => cond (List.all xs okONums) (cond (Nat.beq q1 2 && Nat.beq q2 0 && Nat.beq q3 0 && Nat.beq q4 0 && Nat.beq q5 3 && Nat.beq q6 1 && Nat.beq q7 0 && Nat.beq q8 0 && Nat.beq q9 4 && Nat.beq q10 2 && Nat.beq q11 0 && Nat.beq q12 0 && Nat.beq q13 0 && Nat.beq q14 1 && decide (q15 = 0) && Nat.beq q16 2 && Nat.beq q17 100 && Nat.beq q18 0 && Nat.beq q19 1 && Nat.beq q20 100) (shut (rlOParse_3 (fun y1 y2 => k .ret ⟨[(2, .ptr 0 0 0), (3, .ptr 1 0 0), (4, .ptr 2 0 0)], [(0, ⟨.var [.nils], false⟩), (1, ⟨.var [.cl (.int .i64 5)], false⟩), (2, ⟨.var [.ref 100 0 y1 true 1], false⟩), (100, ⟨.ints .u32 y2, false⟩)]⟩) (fun y1 y2 => k .normal ⟨[(2, .ptr 0 0 0), (3, .ptr 1 0 0), (4, .ptr 2 0 0)], [(0, ⟨.var [.nils], false⟩), (1, ⟨.var [.cl (.int .i64 0)], false⟩), (2, ⟨.var [.ref 100 0 y1 true 1], false⟩), (100, ⟨.ints .u32 y2, false⟩)]⟩)) xs v1 v2) none) none
 | _ => none
noncomputable def EOParse : Env := {
 orc := fun g => cond (Nat.beq g 121) (SONumbers) (cond (Nat.beq g 122) (SOFit) (fun _ _ => Tree.fail))
 pre := fun g => cond (Nat.beq g 121) (preONumbers) (cond (Nat.beq g 122) (preOFit) (cond (Nat.beq g 154) (preONums) (fun _ _ => true)))
 byref := fun _ => []
 keep := fun g => cond (Nat.beq g 121) (true) (false)
 live := fun r => cond (Nat.beq r 3) ([2, 3, 4]) ([])
 ren := fun _ => []
 vir := fun r => cond (Nat.beq r 3) ([(2, 0, 100, .ints .u32 [])]) ([])
 glob := glVal
 nt := 41
 lp := fun _ => none
 lowr := fun r => cond (Nat.beq r 3) ([(66, 0), (67, 1), (68, 2)]) ([])
 sq := fun g => cond (Nat.beq g 154) (QONums) (fun _ _ => none)
 rf := fun r => cond (Nat.beq r 3) (some (ROParse_3)) (none)
}
noncomputable def arlOParse_3 : Code := Cd.fst (Cd.fst (Cd.snd (Cd.fst (Cd.snd (Cd.snd (Tryd.f82.body.getD .skip))))))
noncomputable def brlOParse_3 : Code := Cd.snd (Cd.fst (Cd.snd (Cd.fst (Cd.snd (Cd.snd (Tryd.f82.body.getD .skip))))))
theorem rlOParse_3_step (k : Ex -> St -> Option Out) (r : List (List CV)) (e1 : Int) (e2 : Bool) (v1 : Nat) (v2 : List Int) : rangeK (EOParse) 41 3 [10, 11] (codeK Tryd.prog (EOParse) 40 arlOParse_3) (codeK Tryd.prog (EOParse) 40 brlOParse_3) ([.int .u32 e1, .bool e2] :: r) ⟨[(2, .ptr 0 0 0), (3, .ptr 1 0 0), (4, .ptr 2 0 0)], [(0, ⟨.var [.nils], false⟩), (1, ⟨.var [.cl (.int .i64 0)], false⟩), (2, ⟨.var [.ref 100 0 v1 true 1], false⟩), (100, ⟨.ints .u32 v2, false⟩)]⟩ k = rlOParse_3s (fun v1 v2 => rangeK (EOParse) 41 3 [10, 11] (codeK Tryd.prog (EOParse) 40 arlOParse_3) (codeK Tryd.prog (EOParse) 40 brlOParse_3) r ⟨[(2, .ptr 0 0 0), (3, .ptr 1 0 0), (4, .ptr 2 0 0)], [(0, ⟨.var [.nils], false⟩), (1, ⟨.var [.cl (.int .i64 0)], false⟩), (2, ⟨.var [.ref 100 0 v1 true 1], false⟩), (100, ⟨.ints .u32 v2, false⟩)]⟩ k) (fun y1 y2 => k .ret ⟨[(2, .ptr 0 0 0), (3, .ptr 1 0 0), (4, .ptr 2 0 0)], [(0, ⟨.var [.nils], false⟩), (1, ⟨.var [.cl (.int .i64 5)], false⟩), (2, ⟨.var [.ref 100 0 y1 true 1], false⟩), (100, ⟨.ints .u32 y2, false⟩)]⟩) (fun y1 y2 => k .normal ⟨[(2, .ptr 0 0 0), (3, .ptr 1 0 0), (4, .ptr 2 0 0)], [(0, ⟨.var [.nils], false⟩), (1, ⟨.var [.cl (.int .i64 0)], false⟩), (2, ⟨.var [.ref 100 0 y1 true 1], false⟩), (100, ⟨.ints .u32 y2, false⟩)]⟩) e1 e2 v1 v2 := by kernel_rfl
theorem rlOParse_3_eq (k : Ex -> St -> Option Out) : ∀ (xs : List (List CV)), List.all xs okONums = true -> ∀ (v1 : Nat) (v2 : List Int), rangeK (EOParse) 41 3 [10, 11] (codeK Tryd.prog (EOParse) 40 arlOParse_3) (codeK Tryd.prog (EOParse) 40 brlOParse_3) xs ⟨[(2, .ptr 0 0 0), (3, .ptr 1 0 0), (4, .ptr 2 0 0)], [(0, ⟨.var [.nils], false⟩), (1, ⟨.var [.cl (.int .i64 0)], false⟩), (2, ⟨.var [.ref 100 0 v1 true 1], false⟩), (100, ⟨.ints .u32 v2, false⟩)]⟩ k = rlOParse_3 (fun y1 y2 => k .ret ⟨[(2, .ptr 0 0 0), (3, .ptr 1 0 0), (4, .ptr 2 0 0)], [(0, ⟨.var [.nils], false⟩), (1, ⟨.var [.cl (.int .i64 5)], false⟩), (2, ⟨.var [.ref 100 0 y1 true 1], false⟩), (100, ⟨.ints .u32 y2, false⟩)]⟩) (fun y1 y2 => k .normal ⟨[(2, .ptr 0 0 0), (3, .ptr 1 0 0), (4, .ptr 2 0 0)], [(0, ⟨.var [.nils], false⟩), (1, ⟨.var [.cl (.int .i64 0)], false⟩), (2, ⟨.var [.ref 100 0 y1 true 1], false⟩), (100, ⟨.ints .u32 y2, false⟩)]⟩) xs v1 v2
 | [], _ => by intros; rfl
 | x :: r, h => by
  intros
  simp only [List.all_cons, Bool.and_eq_true] at h
  obtain ⟨e1, e2, rfl⟩ := okONums_of h.1
  rw [rlOParse_3_step]
  have ih := rlOParse_3_eq k r h.2
  simp only [ih]
  rfl
theorem ROParse_3_ok : ∀ (σ : St) (xs : List (List CV)) (k : Ex -> St -> Option Out) (r : Out), ROParse_3 σ xs k = some r -> rangeK (EOParse) 41 3 [10, 11] (codeK Tryd.prog (EOParse) 40 arlOParse_3) (codeK Tryd.prog (EOParse) 40 brlOParse_3) xs σ k = some r := by
 intro σ xs k r h
 unfold ROParse_3 at h
 split at h
 ·replace h := cond_some h
  obtain ⟨hx, h⟩ := h
  replace h := cond_some h
  obtain ⟨hc, h⟩ := h
  simp only [Bool.and_eq_true, beq_prop, decide_eq_true_eq, Bool.not_eq_true'] at hc
  obtain ⟨⟨⟨⟨⟨⟨⟨⟨⟨⟨⟨⟨⟨⟨⟨⟨⟨⟨⟨rfl, rfl⟩, rfl⟩, rfl⟩, rfl⟩, rfl⟩, rfl⟩, rfl⟩, rfl⟩, rfl⟩, rfl⟩, rfl⟩, rfl⟩, rfl⟩, rfl⟩, rfl⟩, rfl⟩, rfl⟩, rfl⟩, rfl⟩ := hc
  rw [shut_eq] at h
  exact (rlOParse_3_eq k xs hx _ _ ).trans h
 ·cases h
theorem loopsOParse : ∀ c, Tryd.f82.body = some c -> LoopsOk Tryd.prog (EOParse) 40 c := by
 intro c hc
 cases hc
 exact ⟨trivial, ⟨trivial, ⟨⟨trivial, ⟨⟨trivial, trivial, jn_none rfl⟩, ⟨⟨trivial, ⟨⟨trivial, trivial, jn_none rfl⟩, trivial, jn_none rfl⟩, jn_none rfl⟩, ⟨⟨trivial, ⟨⟨trivial, ⟨trivial, trivial, jn_none rfl⟩, jn_none rfl⟩, trivial, jn_none rfl⟩, jn_none rfl⟩, trivial, jn_none rfl⟩, jn_none rfl⟩, rfl, rfl, rf_some rfl (ROParse_3_ok)⟩, jn_none rfl⟩, ⟨⟨trivial, ⟨⟨trivial, trivial, jn_none rfl⟩, trivial, jn_none rfl⟩, jn_none rfl⟩, ⟨trivial, trivial, jn_none rfl⟩, jn_none rfl⟩, jn_none rfl⟩, jn_none rfl⟩, jn_none rfl⟩
noncomputable def gOParse (b : List Int) : Option Out :=
 cond (bytesOk b) (
 cond (List.all (oidRows (oidNums b)) okONums) (
 shut (rlOParse_3
 (fun (y1 : Nat) (y2 : List Int) =>
  some (.ret [.cl (.sli .u32 []), .cl (.int .i64 5)] []))
 (fun (y3 : Nat) (y4 : List Int) =>
  let r5 : Bool := oidFit y4
  cond (!r5) (
   some (.ret [.cl (.sli .u32 []), .cl (.int .i64 5)] []))
  (
   some (.ret [.cl (.sli .u32 y4), .cl (.int .i64 0)] [])))) (oidRows (oidNums b)) 0 []) none) none
theorem gOParse_eq (b : List Int) : bodyK Tryd.prog (EOParse) 40 false Tryd.f82 [.cl (.sli .u8 b)] [] = gOParse b := by kernel_rfl
end Go.Proofs.YtfkpjbbkdkcdcaaDoorA

namespace Go.Proofs.YtfkpjbbkdkcdcaaDoorA
end Go.Proofs.YtfkpjbbkdkcdcaaDoorA

namespace Go.Proofs.YtfkpjbbkdkcdcaaDoorA
end Go.Proofs.YtfkpjbbkdkcdcaaDoorA

namespace Go.Proofs.YtfkpjbbkdkcdcaaDoorA
noncomputable def ESClone : Env := {
 orc := fun _ => fun _ _ => Tree.fail
 pre := fun _ => fun _ _ => true
 byref := fun _ => []
 keep := fun _ => false
 live := fun _ => []
 ren := fun _ => []
 glob := glVal
 nt := 8
 lp := fun _ => none
}
theorem loopsSClone : ∀ c, Tryd.f78.body = some c -> LoopsOk Tryd.prog (ESClone) 40 c := by
 intro c hc
 cases hc
 exact ⟨trivial, ⟨⟨trivial, ⟨⟨trivial, trivial, jn_none rfl⟩, trivial, jn_none rfl⟩, jn_none rfl⟩, ⟨trivial, trivial, jn_none rfl⟩, jn_none rfl⟩, jn_none rfl⟩
noncomputable def gSClone (b : List Int) : Option Out :=
 cond (Nat.beq b.length 0) (
  bothK (
   some (.ret [.cl (.sli .u8 [])] []))
  (
   let l1 : List Int := [] ++ b
   cond (Nat.ble (l1.length * 1) LIMN) (
   cond (Nat.ble l1.length LIMN) (
   some (.ret [.cl (.sli .u8 l1)] [])) none) none))
 (
  let l2 : List Int := [] ++ b
  cond (Nat.ble (l2.length * 1) LIMN) (
  cond (Nat.ble l2.length LIMN) (
  some (.ret [.cl (.sli .u8 l2)] [])) none) none)
theorem gSClone_eq (b : List Int) : bodyK Tryd.prog (ESClone) 40 false Tryd.f78 [.cl (.sli .u8 b)] [] = gSClone b := by kernel_rfl
end Go.Proofs.YtfkpjbbkdkcdcaaDoorA

namespace Go.Proofs.YtfkpjbbkdkcdcaaDoorA
end Go.Proofs.YtfkpjbbkdkcdcaaDoorA
