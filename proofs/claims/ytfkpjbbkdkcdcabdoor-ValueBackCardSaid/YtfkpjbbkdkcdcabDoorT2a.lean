/-
 What the reading of apostille/stamp.digits comes to, printed by a program. Conditions: none.
-/
import Derived.Test.YtfkpjbbkdkcdcabDoorT1
set_option linter.unusedVariables false
set_option linter.unusedSimpArgs false
set_option maxRecDepth 100000
namespace Go.Proofs.YtfkpjbbkdkcdcabDoorA
noncomputable def EDigits : Env := {
 orc := fun _ => fun _ _ => Tree.fail
 pre := fun _ => fun _ _ => true
 byref := fun _ => []
 keep := fun _ => false
 live := fun _ => []
 ren := fun _ => []
 glob := glVal
 nt := 31
 lp := fun _ => none
}
theorem loopsDigits : ∀ c, Tryd.f54.body = some c -> LoopsOk Tryd.prog (EDigits) 40 c := by
 intro c hc
 cases hc
 exact ⟨trivial, ⟨trivial, ⟨⟨trivial, ⟨⟨trivial, trivial, jn_none rfl⟩, trivial, jn_none rfl⟩, jn_none rfl⟩, ⟨trivial, trivial, jn_none rfl⟩, jn_none rfl⟩, jn_none rfl⟩, jn_none rfl⟩
noncomputable def gDigits (s : ByteArray) : Option Out :=
 cond (decide ((0 : Int) < ((s.size : Nat) : Int))) (
 let x1 : Int := bget s 0
 let x2 : Int := IntKind.i64.wrap x1
 let x3 : Int := IntKind.i64.wrap (x2 - 48)
 cond (decide ((1 : Int) < ((s.size : Nat) : Int))) (
 let x4 : Int := bget s 1
 let x5 : Int := IntKind.i64.wrap x4
 let x6 : Int := IntKind.i64.wrap (x5 - 48)
 cond (decide (x3 < 0)) (
  some (.ret [.cl (.int .i64 (-100000))] []))
 (
  cond (decide ((9 : Int) < x3)) (
   some (.ret [.cl (.int .i64 (-100000))] []))
  (
   cond (decide (x6 < 0)) (
    some (.ret [.cl (.int .i64 (-100000))] []))
   (
    cond (decide ((9 : Int) < x6)) (
     some (.ret [.cl (.int .i64 (-100000))] []))
    (
     let x7 : Int := IntKind.i64.wrap ((10 : Int) * x3)
     let x8 : Int := IntKind.i64.wrap (x7 + x6)
     some (.ret [.cl (.int .i64 x8)] [])))))) none) none
theorem gDigits_eq (s : ByteArray) : bodyK Tryd.prog (EDigits) 40 false Tryd.f54 [.cl (.str s)] [] = gDigits s := by kernel_rfl
end Go.Proofs.YtfkpjbbkdkcdcabDoorA

namespace Go.Proofs.YtfkpjbbkdkcdcabDoorA
noncomputable def EDLeap : Env := {
 orc := fun _ => fun _ _ => Tree.fail
 pre := fun _ => fun _ _ => true
 byref := fun _ => []
 keep := fun _ => false
 live := fun _ => []
 ren := fun _ => []
 glob := glVal
 nt := 19
 lp := fun _ => none
}
theorem loopsDLeap : ∀ c, Tryd.f72.body = some c -> LoopsOk Tryd.prog (EDLeap) 40 c := by
 intro c hc
 cases hc
 exact ⟨trivial, ⟨trivial, trivial, jn_none rfl⟩, jn_none rfl⟩
noncomputable def gDLeap (d0 : Int) (d1 : Int) (d2 : Int) (d3 : Int) (d4 : Int) (d5 : Int) : Option Out :=
 let x1 : Int := Int.tmod d0 4
 cond (decide (x1 = 0)) (
  let x2 : Int := Int.tmod d0 100
  cond (!decide (x2 = 0)) (
   some (.ret [.cl (.bool true)] []))
  (
   let x3 : Int := Int.tmod d0 400
   some (.ret [.cl (.bool (decide (x3 = 0)))] [])))
 (
  some (.ret [.cl (.bool false)] []))
theorem gDLeap_eq (d0 : Int) (d1 : Int) (d2 : Int) (d3 : Int) (d4 : Int) (d5 : Int) : bodyK Tryd.prog (EDLeap) 40 false Tryd.f72 [.cl (.aggi 6 .i64 [d0, d1, d2, d3, d4, d5])] [] = gDLeap d0 d1 d2 d3 d4 d5 := by kernel_rfl
end Go.Proofs.YtfkpjbbkdkcdcabDoorA

namespace Go.Proofs.YtfkpjbbkdkcdcabDoorA
noncomputable def EDDays : Env := {
 orc := fun g => cond (Nat.beq g 72) (SDLeap) (fun _ _ => Tree.fail)
 pre := fun g => cond (Nat.beq g 72) (preDLeap) (fun _ _ => true)
 byref := fun _ => []
 keep := fun _ => false
 live := fun _ => []
 ren := fun _ => []
 glob := glVal
 nt := 14
 lp := fun _ => none
}
theorem loopsDDays : ∀ c, Tryd.f63.body = some c -> LoopsOk Tryd.prog (EDDays) 40 c := by
 intro c hc
 cases hc
 exact ⟨trivial, ⟨⟨trivial, ⟨trivial, ⟨⟨⟨trivial, ⟨⟨trivial, trivial, jn_none rfl⟩, trivial, jn_none rfl⟩, jn_none rfl⟩, ⟨trivial, trivial, jn_none rfl⟩, jn_none rfl⟩, ⟨⟨trivial, ⟨trivial, ⟨trivial, ⟨trivial, ⟨trivial, ⟨trivial, trivial, jn_none rfl⟩, jn_none rfl⟩, jn_none rfl⟩, jn_none rfl⟩, jn_none rfl⟩, jn_none rfl⟩, ⟨⟨trivial, trivial, jn_none rfl⟩, trivial, jn_none rfl⟩, jn_none rfl⟩, jn_none rfl⟩, jn_none rfl⟩, jn_none rfl⟩, ⟨trivial, trivial, jn_none rfl⟩, jn_none rfl⟩, jn_none rfl⟩
noncomputable def gDDays (d0 : Int) (d1 : Int) (d2 : Int) (d3 : Int) (d4 : Int) (d5 : Int) : Option Out :=
 cond (decide (d1 = 2)) (
  cond (stOk d0) (
  let r1 : Bool := stLeap d0
  cond (r1) (
   some (.ret [.cl (.int .i64 29)] []))
  (
   some (.ret [.cl (.int .i64 28)] []))) none)
 (
  cond (decide (d1 = 4)) (
   some (.ret [.cl (.int .i64 30)] []))
  (
   cond (decide (d1 = 6)) (
    some (.ret [.cl (.int .i64 30)] []))
   (
    cond (decide (d1 = 9)) (
     some (.ret [.cl (.int .i64 30)] []))
    (
     cond (decide (d1 = 11)) (
      some (.ret [.cl (.int .i64 30)] []))
     (
      some (.ret [.cl (.int .i64 31)] []))))))
theorem gDDays_eq (d0 : Int) (d1 : Int) (d2 : Int) (d3 : Int) (d4 : Int) (d5 : Int) : bodyK Tryd.prog (EDDays) 40 false Tryd.f63 [.cl (.aggi 6 .i64 [d0, d1, d2, d3, d4, d5])] [] = gDDays d0 d1 d2 d3 d4 d5 := by kernel_rfl
end Go.Proofs.YtfkpjbbkdkcdcabDoorA

namespace Go.Proofs.YtfkpjbbkdkcdcabDoorA
noncomputable def EDFit : Env := {
 orc := fun g => cond (Nat.beq g 63) (SDDays) (fun _ _ => Tree.fail)
 pre := fun g => cond (Nat.beq g 63) (preDDays) (fun _ _ => true)
 byref := fun _ => []
 keep := fun _ => false
 live := fun _ => []
 ren := fun _ => []
 glob := glVal
 nt := 61
 lp := fun _ => none
}
theorem loopsDFit : ∀ c, Tryd.f55.body = some c -> LoopsOk Tryd.prog (EDFit) 40 c := by
 intro c hc
 cases hc
 exact ⟨trivial, ⟨⟨trivial, ⟨⟨trivial, trivial, jn_none rfl⟩, trivial, jn_none rfl⟩, jn_none rfl⟩, ⟨trivial, trivial, jn_none rfl⟩, jn_none rfl⟩, jn_none rfl⟩
noncomputable def gDFit (d0 : Int) (d1 : Int) (d2 : Int) (d3 : Int) (d4 : Int) (d5 : Int) : Option Out :=
 cond (decide (d0 < 1)) (
  some (.ret [.cl (.bool false)] []))
 (
  cond (decide ((9999 : Int) < d0)) (
   some (.ret [.cl (.bool false)] []))
  (
   cond (decide (d1 < 1)) (
    some (.ret [.cl (.bool false)] []))
   (
    cond (decide ((12 : Int) < d1)) (
     some (.ret [.cl (.bool false)] []))
    (
     cond (decide (d2 < 1)) (
      some (.ret [.cl (.bool false)] []))
     (
      cond (stOk d0) (
      let r1 : Int := stDays d0 d1
      cond (decide (r1 < d2)) (
       some (.ret [.cl (.bool false)] []))
      (
       cond (decide ((0 : Int) <= d3)) (
        cond (decide (d3 < 24)) (
         cond (decide ((0 : Int) <= d4)) (
          cond (decide (d4 < 60)) (
           cond (decide ((0 : Int) <= d5)) (
            some (.ret [.cl (.bool (decide (d5 < 60)))] []))
           (
            some (.ret [.cl (.bool false)] [])))
          (
           some (.ret [.cl (.bool false)] [])))
         (
          some (.ret [.cl (.bool false)] [])))
        (
         some (.ret [.cl (.bool false)] [])))
       (
        some (.ret [.cl (.bool false)] [])))) none)))))
theorem gDFit_eq (d0 : Int) (d1 : Int) (d2 : Int) (d3 : Int) (d4 : Int) (d5 : Int) : bodyK Tryd.prog (EDFit) 40 false Tryd.f55 [.cl (.aggi 6 .i64 [d0, d1, d2, d3, d4, d5])] [] = gDFit d0 d1 d2 d3 d4 d5 := by kernel_rfl
end Go.Proofs.YtfkpjbbkdkcdcabDoorA

namespace Go.Proofs.YtfkpjbbkdkcdcabDoorA
noncomputable def EDSecs : Env := {
 orc := fun _ => fun _ _ => Tree.fail
 pre := fun _ => fun _ _ => true
 byref := fun _ => []
 keep := fun _ => false
 live := fun _ => []
 ren := fun _ => []
 glob := glVal
 nt := 59
 lp := fun _ => none
}
theorem loopsDSecs : ∀ c, Tryd.f56.body = some c -> LoopsOk Tryd.prog (EDSecs) 40 c := by
 intro c hc
 cases hc
 exact ⟨trivial, ⟨trivial, ⟨⟨trivial, ⟨trivial, trivial, jn_none rfl⟩, jn_none rfl⟩, ⟨trivial, ⟨trivial, ⟨trivial, ⟨trivial, ⟨trivial, trivial, jn_none rfl⟩, jn_none rfl⟩, jn_none rfl⟩, jn_none rfl⟩, jn_none rfl⟩, jn_none rfl⟩, jn_none rfl⟩, jn_none rfl⟩
noncomputable def gDSecs (d0 : Int) (d1 : Int) (d2 : Int) (d3 : Int) (d4 : Int) (d5 : Int) : Option Out :=
 let x1 : Int := IntKind.i64.wrap (d1 - 3)
 cond (decide (x1 < 0)) (
  let x2 : Int := IntKind.i64.wrap (d0 - 1)
  let x3 : Int := IntKind.i64.wrap (x1 + 12)
  let x4 : Int := IntKind.i64.wrap (Int.tdiv x2 400)
  let x5 : Int := Int.tmod x2 400
  let x6 : Int := IntKind.i64.wrap ((153 : Int) * x3)
  let x7 : Int := IntKind.i64.wrap (x6 + 2)
  let x8 : Int := IntKind.i64.wrap (Int.tdiv x7 5)
  let x9 : Int := IntKind.i64.wrap (x8 + d2)
  let x10 : Int := IntKind.i64.wrap (x9 - 1)
  let x11 : Int := IntKind.i64.wrap (x4 * 146097)
  let x12 : Int := IntKind.i64.wrap (x5 * 365)
  let x13 : Int := IntKind.i64.wrap (x11 + x12)
  let x14 : Int := IntKind.i64.wrap (Int.tdiv x5 4)
  let x15 : Int := IntKind.i64.wrap (x13 + x14)
  let x16 : Int := IntKind.i64.wrap (Int.tdiv x5 100)
  let x17 : Int := IntKind.i64.wrap (x15 - x16)
  let x18 : Int := IntKind.i64.wrap (x17 + x10)
  let x19 : Int := IntKind.i64.wrap (x18 - 719468)
  let x20 : Int := IntKind.i64.wrap (x19 * 86400)
  let x21 : Int := IntKind.i64.wrap (d3 * 3600)
  let x22 : Int := IntKind.i64.wrap (d4 * 60)
  let x23 : Int := IntKind.i64.wrap (x21 + x22)
  let x24 : Int := IntKind.i64.wrap (x23 + d5)
  let x25 : Int := IntKind.i64.wrap (x20 + x24)
  some (.ret [.cl (.int .i64 x25)] []))
 (
  let x26 : Int := IntKind.i64.wrap (Int.tdiv d0 400)
  let x27 : Int := Int.tmod d0 400
  let x28 : Int := IntKind.i64.wrap ((153 : Int) * x1)
  let x29 : Int := IntKind.i64.wrap (x28 + 2)
  let x30 : Int := IntKind.i64.wrap (Int.tdiv x29 5)
  let x31 : Int := IntKind.i64.wrap (x30 + d2)
  let x32 : Int := IntKind.i64.wrap (x31 - 1)
  let x33 : Int := IntKind.i64.wrap (x26 * 146097)
  let x34 : Int := IntKind.i64.wrap (x27 * 365)
  let x35 : Int := IntKind.i64.wrap (x33 + x34)
  let x36 : Int := IntKind.i64.wrap (Int.tdiv x27 4)
  let x37 : Int := IntKind.i64.wrap (x35 + x36)
  let x38 : Int := IntKind.i64.wrap (Int.tdiv x27 100)
  let x39 : Int := IntKind.i64.wrap (x37 - x38)
  let x40 : Int := IntKind.i64.wrap (x39 + x32)
  let x41 : Int := IntKind.i64.wrap (x40 - 719468)
  let x42 : Int := IntKind.i64.wrap (x41 * 86400)
  let x43 : Int := IntKind.i64.wrap (d3 * 3600)
  let x44 : Int := IntKind.i64.wrap (d4 * 60)
  let x45 : Int := IntKind.i64.wrap (x43 + x44)
  let x46 : Int := IntKind.i64.wrap (x45 + d5)
  let x47 : Int := IntKind.i64.wrap (x42 + x46)
  some (.ret [.cl (.int .i64 x47)] []))
theorem gDSecs_eq (d0 : Int) (d1 : Int) (d2 : Int) (d3 : Int) (d4 : Int) (d5 : Int) : bodyK Tryd.prog (EDSecs) 40 false Tryd.f56 [.cl (.aggi 6 .i64 [d0, d1, d2, d3, d4, d5])] [] = gDSecs d0 d1 d2 d3 d4 d5 := by kernel_rfl
end Go.Proofs.YtfkpjbbkdkcdcabDoorA

namespace Go.Proofs.YtfkpjbbkdkcdcabDoorA
noncomputable def EDated : Env := {
 orc := fun _ => fun _ _ => Tree.fail
 pre := fun _ => fun _ _ => true
 byref := fun _ => []
 keep := fun _ => false
 live := fun _ => []
 ren := fun _ => []
 glob := glVal
 nt := 81
 lp := fun _ => none
}
theorem loopsDated : ∀ c, Tryd.f52.body = some c -> LoopsOk Tryd.prog (EDated) 40 c := by
 intro c hc
 cases hc
 exact ⟨trivial, ⟨trivial, ⟨trivial, ⟨trivial, ⟨trivial, ⟨trivial, ⟨trivial, ⟨trivial, ⟨trivial, ⟨trivial, ⟨⟨trivial, ⟨trivial, trivial, jn_none rfl⟩, jn_none rfl⟩, ⟨trivial, trivial, jn_none rfl⟩, jn_none rfl⟩, jn_none rfl⟩, jn_none rfl⟩, jn_none rfl⟩, jn_none rfl⟩, jn_none rfl⟩, jn_none rfl⟩, jn_none rfl⟩, jn_none rfl⟩, jn_none rfl⟩, jn_none rfl⟩
noncomputable def gDated (t : Int) : Option Out :=
 let x1 : Int := IntKind.i64.wrap (t - (-62135596800))
 let x2 : Int := IntKind.i64.wrap (Int.tdiv x1 86400)
 let x3 : Int := IntKind.i64.wrap (t - (-62135596800))
 let x4 : Int := Int.tmod x3 86400
 let x5 : Int := IntKind.i64.wrap (x2 + 306)
 let x6 : Int := IntKind.i64.wrap (Int.tdiv x5 146097)
 let x7 : Int := Int.tmod x5 146097
 let x8 : Int := IntKind.i64.wrap (Int.tdiv x7 1460)
 let x9 : Int := IntKind.i64.wrap (x7 - x8)
 let x10 : Int := IntKind.i64.wrap (Int.tdiv x7 36524)
 let x11 : Int := IntKind.i64.wrap (x9 + x10)
 let x12 : Int := IntKind.i64.wrap (Int.tdiv x7 146096)
 let x13 : Int := IntKind.i64.wrap (x11 - x12)
 let x14 : Int := IntKind.i64.wrap (Int.tdiv x13 365)
 let x15 : Int := IntKind.i64.wrap ((365 : Int) * x14)
 let x16 : Int := IntKind.i64.wrap (Int.tdiv x14 4)
 let x17 : Int := IntKind.i64.wrap (x15 + x16)
 let x18 : Int := IntKind.i64.wrap (Int.tdiv x14 100)
 let x19 : Int := IntKind.i64.wrap (x17 - x18)
 let x20 : Int := IntKind.i64.wrap (x7 - x19)
 let x21 : Int := IntKind.i64.wrap ((5 : Int) * x20)
 let x22 : Int := IntKind.i64.wrap (x21 + 2)
 let x23 : Int := IntKind.i64.wrap (Int.tdiv x22 153)
 let x24 : Int := IntKind.i64.wrap (x6 * 400)
 let x25 : Int := IntKind.i64.wrap (x14 + x24)
 let x26 : Int := IntKind.i64.wrap (x23 + 3)
 let x27 : Int := IntKind.i64.wrap ((153 : Int) * x23)
 let x28 : Int := IntKind.i64.wrap (x27 + 2)
 let x29 : Int := IntKind.i64.wrap (Int.tdiv x28 5)
 let x30 : Int := IntKind.i64.wrap (x20 - x29)
 let x31 : Int := IntKind.i64.wrap (x30 + 1)
 let x32 : Int := IntKind.i64.wrap (Int.tdiv x4 3600)
 let x33 : Int := IntKind.i64.wrap (Int.tdiv x4 60)
 let x34 : Int := Int.tmod x33 60
 let x35 : Int := Int.tmod x4 60
 cond (decide ((12 : Int) < x26)) (
  let x36 : Int := IntKind.i64.wrap (x25 + 1)
  let x37 : Int := IntKind.i64.wrap (x26 - 12)
  some (.ret [.cl (.aggi 6 .i64 [x36, x37, x31, x32, x34, x35])] []))
 (
  some (.ret [.cl (.aggi 6 .i64 [x25, x26, x31, x32, x34, x35])] []))
theorem gDated_eq (t : Int) : bodyK Tryd.prog (EDated) 40 false Tryd.f52 [.cl (.int .i64 t)] [] = gDated t := by kernel_rfl
end Go.Proofs.YtfkpjbbkdkcdcabDoorA

namespace Go.Proofs.YtfkpjbbkdkcdcabDoorA
noncomputable def EPut : Env := {
 orc := fun _ => fun _ _ => Tree.fail
 pre := fun _ => fun _ _ => true
 byref := fun _ => []
 keep := fun _ => false
 live := fun _ => []
 ren := fun _ => []
 glob := glVal
 nt := 17
 lp := fun _ => none
}
theorem loopsPut : ∀ c, Tryd.f53.body = some c -> LoopsOk Tryd.prog (EPut) 40 c := by
 intro c hc
 cases hc
 exact ⟨trivial, ⟨trivial, trivial, jn_none rfl⟩, jn_none rfl⟩
noncomputable def gPut_0 (n : Int) : Option Out :=
 let x1 : Int := IntKind.i64.wrap (Int.tdiv n 10)
 let x2 : Int := Int.tmod x1 10
 let x3 : Int := IntKind.i64.wrap ((48 : Int) + x2)
 let x4 : Int := IntKind.u8.wrap x3
 let x5 : Int := Int.tmod n 10
 let x6 : Int := IntKind.i64.wrap ((48 : Int) + x5)
 let x7 : Int := IntKind.u8.wrap x6
 some (.ret [.ref 0 0 2 true 1] [some ⟨.ints .u8 [x4, x7], false⟩])
theorem gPut_0_eq (n : Int) : bodyK Tryd.prog (EPut) 40 true Tryd.f53 [.nils, .cl (.int .i64 n)] [] = gPut_0 n := by kernel_rfl
noncomputable def gPut_1 (len : Nat) (n : Int) (l : List Int) : Option Out :=
 let x1 : Int := IntKind.i64.wrap (Int.tdiv n 10)
 let x2 : Int := Int.tmod x1 10
 let x3 : Int := IntKind.i64.wrap ((48 : Int) + x2)
 let x4 : Int := IntKind.u8.wrap x3
 let x5 : Int := Int.tmod n 10
 let x6 : Int := IntKind.i64.wrap ((48 : Int) + x5)
 let x7 : Int := IntKind.u8.wrap x6
 let l8 : List Int := l ++ [x4, x7]
 cond (Nat.ble (l8.length * 1) LIMN) (
 cond (Nat.ble l8.length LIMN) (
 some (.ret [.ref 1 0 l8.length true 1] [none, some ⟨.ints .u8 l8, false⟩])) none) none
theorem gPut_1_eq (len : Nat) (n : Int) (l : List Int) : bodyK Tryd.prog (EPut) 40 true Tryd.f53 [.ref 0 0 len true 1, .cl (.int .i64 n)] [⟨.ints .u8 l, false⟩] = gPut_1 len n l := by kernel_rfl
end Go.Proofs.YtfkpjbbkdkcdcabDoorA

namespace Go.Proofs.YtfkpjbbkdkcdcabDoorA
noncomputable def ESText : Env := {
 orc := fun g => cond (Nat.beq g 52) (SDated) (cond (Nat.beq g 53) (SPut) (fun _ _ => Tree.fail))
 pre := fun g => cond (Nat.beq g 52) (preDated) (cond (Nat.beq g 53) (prePut) (fun _ _ => true))
 byref := fun g => cond (Nat.beq g 53) ([0]) ([])
 keep := fun g => cond (Nat.beq g 53) (true) (false)
 live := fun r => cond (Nat.beq r 6) ([4, 19, 20]) ([])
 ren := fun _ => []
 glob := glVal
 nt := 31
 lp := fun _ => none
}
theorem loopsSText : ∀ c, Tryd.f37.body = some c -> LoopsOk Tryd.prog (ESText) 40 c := by
 intro c hc
 cases hc
 exact ⟨trivial, ⟨⟨trivial, ⟨⟨trivial, trivial, jn_none rfl⟩, trivial, jn_none rfl⟩, jn_none rfl⟩, ⟨trivial, ⟨trivial, ⟨⟨trivial, ⟨⟨trivial, ⟨⟨trivial, trivial, jn_none rfl⟩, ⟨⟨trivial, trivial, jn_none rfl⟩, trivial, jn_none rfl⟩, jn_none rfl⟩, jn_none rfl⟩, lp_none rfl⟩, jn_none rfl⟩, ⟨trivial, trivial, jn_none rfl⟩, jn_none rfl⟩, jn_none rfl⟩, jn_none rfl⟩, jn_none rfl⟩, jn_none rfl⟩
noncomputable def gSText (t : Int) : Option Out :=
 cond (decide (t < (-62135596800))) (
  some (.ret [.cl (.str (⟨#[]⟩ : ByteArray))] []))
 (
  cond (decide ((253402300799 : Int) < t)) (
   some (.ret [.cl (.str (⟨#[]⟩ : ByteArray))] []))
  (
   cond (stIn t) (
   let r1 : Int := (stDated t).d0
   let r2 : Int := (stDated t).d1
   let r3 : Int := (stDated t).d2
   let r4 : Int := (stDated t).d3
   let r5 : Int := (stDated t).d4
   let r6 : Int := (stDated t).d5
   let x7 : Int := IntKind.i64.wrap (Int.tdiv r1 100)
   let r9 : List Int := stTwo x7
   cond (decide (r9.length < 1000)) (
   let r11 : List Int := r9 ++ stTwo r1
   cond (decide (r11.length < 1000)) (
   let r13 : List Int := r11 ++ stTwo r2
   cond (decide (r13.length < 1000)) (
   let r15 : List Int := r13 ++ stTwo r3
   cond (decide (r15.length < 1000)) (
   let r17 : List Int := r15 ++ stTwo r4
   cond (decide (r17.length < 1000)) (
   let r19 : List Int := r17 ++ stTwo r5
   cond (decide (r19.length < 1000)) (
   let r21 : List Int := r19 ++ stTwo r6
   let l22 : List Int := r21 ++ [90]
   cond (Nat.ble (l22.length * 1) LIMN) (
   cond (Nat.ble l22.length LIMN) (
   let s23 : ByteArray := strOf l22
   some (.ret [.cl (.str s23)] [])) none) none) none) none) none) none) none) none) none))
theorem gSText_eq (t : Int) : bodyK Tryd.prog (ESText) 40 false Tryd.f37 [.cl (.int .i64 t)] [] = gSText t := by kernel_rfl
end Go.Proofs.YtfkpjbbkdkcdcabDoorA

namespace Go.Proofs.YtfkpjbbkdkcdcabDoorA
noncomputable def ESRead : Env := {
 orc := fun g => cond (Nat.beq g 54) (SDigits) (cond (Nat.beq g 55) (SDFit) (cond (Nat.beq g 56) (SDSecs) (fun _ _ => Tree.fail)))
 pre := fun g => cond (Nat.beq g 54) (preDigits) (cond (Nat.beq g 55) (preDFit) (cond (Nat.beq g 56) (preDSecs) (fun _ _ => true)))
 byref := fun _ => []
 keep := fun _ => false
 live := fun r => cond (Nat.beq r 5) ([0, 4, 14]) ([])
 ren := fun _ => []
 glob := glVal
 nt := 38
 lp := fun _ => none
}
theorem loopsSRead : ∀ c, Tryd.f39.body = some c -> LoopsOk Tryd.prog (ESRead) 40 c := by
 intro c hc
 cases hc
 exact ⟨trivial, ⟨⟨trivial, ⟨⟨trivial, trivial, jn_none rfl⟩, trivial, jn_none rfl⟩, jn_none rfl⟩, ⟨trivial, ⟨⟨trivial, ⟨⟨trivial, ⟨⟨trivial, trivial, jn_none rfl⟩, ⟨⟨trivial, trivial, jn_none rfl⟩, trivial, jn_none rfl⟩, jn_none rfl⟩, jn_none rfl⟩, lp_none rfl⟩, jn_none rfl⟩, ⟨trivial, ⟨⟨trivial, ⟨⟨trivial, trivial, jn_none rfl⟩, trivial, jn_none rfl⟩, jn_none rfl⟩, ⟨trivial, trivial, jn_none rfl⟩, jn_none rfl⟩, jn_none rfl⟩, jn_none rfl⟩, jn_none rfl⟩, jn_none rfl⟩, jn_none rfl⟩
noncomputable def gSRead (s : ByteArray) : Option Out :=
 cond (!decide (((s.size : Nat) : Int) = 15)) (
  some (.ret [.cl (.int .i64 0), .cl (.int .i64 1)] []))
 (
  cond (decide ((14 : Int) < ((s.size : Nat) : Int))) (
  let x1 : Int := bget s 14
  cond (!decide (x1 = 90)) (
   some (.ret [.cl (.int .i64 0), .cl (.int .i64 1)] []))
  (
   cond (decide ((2 : Int) <= ((s.size : Nat) : Int))) (
   let s2 : ByteArray := s.extract 2 s.size
   cond (decide (2 <= s2.size)) (
   let r3 : Int := stDigits s2
   cond (decide ((4 : Int) <= ((s.size : Nat) : Int))) (
   let s4 : ByteArray := s.extract 4 s.size
   cond (decide (2 <= s4.size)) (
   let r5 : Int := stDigits s4
   cond (decide ((6 : Int) <= ((s.size : Nat) : Int))) (
   let s6 : ByteArray := s.extract 6 s.size
   cond (decide (2 <= s6.size)) (
   let r7 : Int := stDigits s6
   cond (decide ((8 : Int) <= ((s.size : Nat) : Int))) (
   let s8 : ByteArray := s.extract 8 s.size
   cond (decide (2 <= s8.size)) (
   let r9 : Int := stDigits s8
   cond (decide ((10 : Int) <= ((s.size : Nat) : Int))) (
   let s10 : ByteArray := s.extract 10 s.size
   cond (decide (2 <= s10.size)) (
   let r11 : Int := stDigits s10
   cond (decide ((12 : Int) <= ((s.size : Nat) : Int))) (
   let s12 : ByteArray := s.extract 12 s.size
   cond (decide (2 <= s12.size)) (
   let r13 : Int := stDigits s12
   cond (decide (2 <= s.size)) (
   let r14 : Int := stDigits s
   let x15 : Int := IntKind.i64.wrap ((100 : Int) * r14)
   let x16 : Int := IntKind.i64.wrap (r3 + x15)
   let r17 : Bool := stFit x16 r5 r7 r9 r11 r13
   cond (!r17) (
    some (.ret [.cl (.int .i64 0), .cl (.int .i64 1)] []))
   (
    cond (stFit x16 r5 r7 r9 r11 r13) (
    let r18 : Int := stSecs x16 r5 r7 r9 r11 r13
    some (.ret [.cl (.int .i64 r18), .cl (.int .i64 0)] [])) none)) none) none) none) none) none) none) none) none) none) none) none) none) none)) none)
theorem gSRead_eq (s : ByteArray) : bodyK Tryd.prog (ESRead) 40 false Tryd.f39 [.cl (.str s)] [] = gSRead s := by kernel_rfl
end Go.Proofs.YtfkpjbbkdkcdcabDoorA

namespace Go.Proofs.YtfkpjbbkdkcdcabDoorA
noncomputable def EDBoxed : Env := {
 orc := fun _ => fun _ _ => Tree.fail
 pre := fun _ => fun _ _ => true
 byref := fun _ => []
 keep := fun _ => false
 live := fun _ => []
 ren := fun _ => []
 glob := glVal
 nt := 17
 lp := fun _ => none
}
theorem loopsDBoxed : ∀ c, Tryd.f29.body = some c -> LoopsOk Tryd.prog (EDBoxed) 40 c := by
 intro c hc
 cases hc
 exact ⟨trivial, ⟨trivial, trivial, jn_none rfl⟩, jn_none rfl⟩
noncomputable def gDBoxed (tag : Int) : Option Out :=
 cond (decide (tag = 48)) (
  some (.ret [.cl (.bool true)] []))
 (
  cond (decide (tag = 49)) (
   some (.ret [.cl (.bool true)] []))
  (
   cond (decide ((160 : Int) <= tag)) (
    some (.ret [.cl (.bool (decide (tag <= 190)))] []))
   (
    some (.ret [.cl (.bool false)] []))))
theorem gDBoxed_eq (tag : Int) : bodyK Tryd.prog (EDBoxed) 40 false Tryd.f29 [.cl (.int .i64 tag)] [] = gDBoxed tag := by kernel_rfl
end Go.Proofs.YtfkpjbbkdkcdcabDoorA

namespace Go.Proofs.YtfkpjbbkdkcdcabDoorA
noncomputable def EDKnown : Env := {
 orc := fun g => cond (Nat.beq g 29) (SDBoxed) (fun _ _ => Tree.fail)
 pre := fun g => cond (Nat.beq g 29) (preDBoxed) (fun _ _ => true)
 byref := fun _ => []
 keep := fun _ => false
 live := fun _ => []
 ren := fun _ => []
 glob := glVal
 nt := 23
 lp := fun _ => none
}
theorem loopsDKnown : ∀ c, Tryd.f64.body = some c -> LoopsOk Tryd.prog (EDKnown) 40 c := by
 intro c hc
 cases hc
 exact ⟨trivial, ⟨⟨trivial, ⟨⟨trivial, ⟨trivial, ⟨trivial, ⟨trivial, ⟨trivial, ⟨trivial, ⟨trivial, ⟨trivial, ⟨trivial, ⟨trivial, ⟨trivial, ⟨trivial, ⟨trivial, ⟨trivial, trivial, jn_none rfl⟩, jn_none rfl⟩, jn_none rfl⟩, jn_none rfl⟩, jn_none rfl⟩, jn_none rfl⟩, jn_none rfl⟩, jn_none rfl⟩, jn_none rfl⟩, jn_none rfl⟩, jn_none rfl⟩, jn_none rfl⟩, jn_none rfl⟩, jn_none rfl⟩, ⟨⟨trivial, trivial, jn_none rfl⟩, trivial, jn_none rfl⟩, jn_none rfl⟩, jn_none rfl⟩, ⟨trivial, trivial, jn_none rfl⟩, jn_none rfl⟩, jn_none rfl⟩
noncomputable def gDKnown (tag : Int) : Option Out :=
 cond (decide (tag = 1)) (
  some (.ret [.cl (.bool true)] []))
 (
  cond (decide (tag = 2)) (
   some (.ret [.cl (.bool true)] []))
  (
   cond (decide (tag = 3)) (
    some (.ret [.cl (.bool true)] []))
   (
    cond (decide (tag = 4)) (
     some (.ret [.cl (.bool true)] []))
    (
     cond (decide (tag = 5)) (
      some (.ret [.cl (.bool true)] []))
     (
      cond (decide (tag = 6)) (
       some (.ret [.cl (.bool true)] []))
      (
       cond (decide (tag = 12)) (
        some (.ret [.cl (.bool true)] []))
       (
        cond (decide (tag = 24)) (
         some (.ret [.cl (.bool true)] []))
        (
         let r1 : Bool := derBoxed tag
         cond (r1) (
          some (.ret [.cl (.bool true)] []))
         (
          cond (decide ((128 : Int) <= tag)) (
           some (.ret [.cl (.bool (decide (tag <= 158)))] []))
          (
           some (.ret [.cl (.bool false)] [])))))))))))
theorem gDKnown_eq (tag : Int) : bodyK Tryd.prog (EDKnown) 40 false Tryd.f64 [.cl (.int .i64 tag)] [] = gDKnown tag := by kernel_rfl
end Go.Proofs.YtfkpjbbkdkcdcabDoorA

namespace Go.Proofs.YtfkpjbbkdkcdcabDoorA
noncomputable def EDLenSize : Env := {
 orc := fun _ => fun _ _ => Tree.fail
 pre := fun _ => fun _ _ => true
 byref := fun _ => []
 keep := fun _ => false
 live := fun _ => []
 ren := fun _ => []
 glob := glVal
 nt := 12
 lp := fun _ => none
}
theorem loopsDLenSize : ∀ c, Tryd.f66.body = some c -> LoopsOk Tryd.prog (EDLenSize) 40 c := by
 intro c hc
 cases hc
 exact ⟨trivial, ⟨⟨trivial, ⟨⟨trivial, trivial, jn_none rfl⟩, ⟨trivial, ⟨⟨trivial, trivial, jn_none rfl⟩, ⟨trivial, ⟨⟨trivial, trivial, jn_none rfl⟩, trivial, jn_none rfl⟩, jn_none rfl⟩, jn_none rfl⟩, jn_none rfl⟩, jn_none rfl⟩, jn_none rfl⟩, ⟨trivial, trivial, jn_none rfl⟩, jn_none rfl⟩, jn_none rfl⟩
noncomputable def gDLenSize (n : Int) : Option Out :=
 cond (decide (n < 128)) (
  some (.ret [.cl (.int .i64 1)] []))
 (
  cond (decide (n < 256)) (
   some (.ret [.cl (.int .i64 2)] []))
  (
   cond (decide (n < 65536)) (
    some (.ret [.cl (.int .i64 3)] []))
   (
    some (.ret [.cl (.int .i64 4)] []))))
theorem gDLenSize_eq (n : Int) : bodyK Tryd.prog (EDLenSize) 40 false Tryd.f66 [.cl (.int .i64 n)] [] = gDLenSize n := by kernel_rfl
end Go.Proofs.YtfkpjbbkdkcdcabDoorA

namespace Go.Proofs.YtfkpjbbkdkcdcabDoorA
noncomputable def EDNumber : Env := {
 orc := fun _ => fun _ _ => Tree.fail
 pre := fun _ => fun _ _ => true
 byref := fun _ => []
 keep := fun _ => false
 live := fun _ => []
 ren := fun _ => []
 glob := glVal
 nt := 27
 lp := fun _ => none
}
theorem loopsDNumber : ∀ c, Tryd.f73.body = some c -> LoopsOk Tryd.prog (EDNumber) 40 c := by
 intro c hc
 cases hc
 exact ⟨trivial, ⟨⟨trivial, ⟨⟨trivial, trivial, jn_none rfl⟩, trivial, jn_none rfl⟩, jn_none rfl⟩, ⟨trivial, ⟨trivial, trivial, jn_none rfl⟩, jn_none rfl⟩, jn_none rfl⟩, jn_none rfl⟩
noncomputable def gDNumber (b : List Int) : Option Out :=
 cond (decide (((b.length : Nat) : Int) < 2)) (
  some (.ret [.cl (.bool (decide (((b.length : Nat) : Int) = 1)))] []))
 (
  cond (decide ((0 : Int) < ((b.length : Nat) : Int))) (
  Option.bind (b[0]?) fun (e1 : Int) =>
  let x2 : Int := IntKind.u64.wrap e1
  let x3 : Int := IntKind.u64.wrap (x2 * 2 ^ 1)
  cond (decide ((1 : Int) < ((b.length : Nat) : Int))) (
  Option.bind (b[1]?) fun (e4 : Int) =>
  let x5 : Int := IntKind.u64.wrap e4
  let x6 : Int := Int.fdiv x5 (2 ^ 7)
  let x7 : Int := IntKind.u64.wrap ((BitVec.ofInt 64 x3 ||| BitVec.ofInt 64 x6).toNat)
  cond (!decide (x7 = 0)) (
   some (.ret [.cl (.bool (!decide (x7 = 511)))] []))
  (
   some (.ret [.cl (.bool false)] []))) none) none)
theorem gDNumber_eq (b : List Int) : bodyK Tryd.prog (EDNumber) 40 false Tryd.f73 [.cl (.sli .u8 b)] [] = gDNumber b := by kernel_rfl
end Go.Proofs.YtfkpjbbkdkcdcabDoorA

namespace Go.Proofs.YtfkpjbbkdkcdcabDoorA
noncomputable def EDStrip : Env := {
 orc := fun _ => fun _ _ => Tree.fail
 pre := fun _ => fun _ _ => true
 byref := fun _ => []
 keep := fun _ => false
 live := fun _ => []
 ren := fun _ => []
 glob := glVal
 nt := 32
 lp := fun _ => none
}
theorem loopsDStrip : ∀ c, Tryd.f74.body = some c -> LoopsOk Tryd.prog (EDStrip) 40 c := by
 intro c hc
 cases hc
 exact ⟨trivial, ⟨⟨trivial, ⟨⟨trivial, trivial, jn_none rfl⟩, trivial, jn_none rfl⟩, jn_none rfl⟩, ⟨⟨trivial, ⟨⟨trivial, trivial, jn_none rfl⟩, trivial, jn_none rfl⟩, jn_none rfl⟩, ⟨trivial, trivial, jn_none rfl⟩, jn_none rfl⟩, jn_none rfl⟩, jn_none rfl⟩
noncomputable def gDStrip (b : List Int) : Option Out :=
 cond (decide (((b.length : Nat) : Int) = 0)) (
  some (.ret [.cl (.bool false)] []))
 (
  cond (decide ((0 : Int) < ((b.length : Nat) : Int))) (
  Option.bind (b[0]?) fun (e1 : Int) =>
  cond (decide ((7 : Int) < e1)) (
   some (.ret [.cl (.bool false)] []))
  (
   cond (decide (((b.length : Nat) : Int) = 1)) (
    cond (decide ((0 : Int) < ((b.length : Nat) : Int))) (
    Option.bind (b[0]?) fun (e2 : Int) =>
    some (.ret [.cl (.bool (decide (e2 = 0)))] [])) none)
   (
    let x3 : Int := IntKind.i64.wrap (((b.length : Nat) : Int) - 1)
    cond (decide ((0 : Int) <= x3)) (
    cond (decide (x3 < ((b.length : Nat) : Int))) (
    Option.bind (b[(Int.toNat x3)]?) fun (e4 : Int) =>
    cond (decide ((0 : Int) < ((b.length : Nat) : Int))) (
    Option.bind (b[0]?) fun (e5 : Int) =>
    cond (decide (e5 < 0)) none (
    let x6 : Int := IntKind.u8.wrap (1 * 2 ^ (min e5.toNat 8))
    let x7 : Int := IntKind.u8.wrap (x6 - 1)
    let x8 : Int := IntKind.u8.wrap ((BitVec.ofInt 8 e4 &&& BitVec.ofInt 8 x7).toNat)
    some (.ret [.cl (.bool (decide (x8 = 0)))] []))) none) none) none))) none)
theorem gDStrip_eq (b : List Int) : bodyK Tryd.prog (EDStrip) 40 false Tryd.f74 [.cl (.sli .u8 b)] [] = gDStrip b := by kernel_rfl
end Go.Proofs.YtfkpjbbkdkcdcabDoorA

namespace Go.Proofs.YtfkpjbbkdkcdcabDoorA
noncomputable def EOFit : Env := {
 orc := fun _ => fun _ _ => Tree.fail
 pre := fun _ => fun _ _ => true
 byref := fun _ => []
 keep := fun _ => false
 live := fun _ => []
 ren := fun _ => []
 glob := glVal
 nt := 31
 lp := fun _ => none
}
theorem loopsOFit : ∀ c, Tryd.f49.body = some c -> LoopsOk Tryd.prog (EOFit) 40 c := by
 intro c hc
 cases hc
 exact ⟨trivial, ⟨⟨trivial, ⟨⟨trivial, trivial, jn_none rfl⟩, ⟨trivial, ⟨⟨trivial, trivial, jn_none rfl⟩, trivial, jn_none rfl⟩, jn_none rfl⟩, jn_none rfl⟩, jn_none rfl⟩, ⟨trivial, trivial, jn_none rfl⟩, jn_none rfl⟩, jn_none rfl⟩
noncomputable def gOFit (o : List Int) : Option Out :=
 cond (decide (((o.length : Nat) : Int) < 2)) (
  some (.ret [.cl (.bool false)] []))
 (
  cond (decide ((20 : Int) < ((o.length : Nat) : Int))) (
   some (.ret [.cl (.bool false)] []))
  (
   cond (decide ((0 : Int) < ((o.length : Nat) : Int))) (
   Option.bind (o[0]?) fun (e1 : Int) =>
   cond (decide ((2 : Int) < e1)) (
    some (.ret [.cl (.bool false)] []))
   (
    cond (decide ((0 : Int) < ((o.length : Nat) : Int))) (
    Option.bind (o[0]?) fun (e2 : Int) =>
    cond (decide (e2 < 2)) (
     cond (decide ((1 : Int) < ((o.length : Nat) : Int))) (
     Option.bind (o[1]?) fun (e3 : Int) =>
     some (.ret [.cl (.bool (decide (e3 < 40)))] [])) none)
    (
     cond (decide ((1 : Int) < ((o.length : Nat) : Int))) (
     Option.bind (o[1]?) fun (e4 : Int) =>
     some (.ret [.cl (.bool (decide (e4 <= 4294967215)))] [])) none)) none)) none))
theorem gOFit_eq (o : List Int) : bodyK Tryd.prog (EOFit) 40 false Tryd.f49 [.cl (.sli .u32 o)] [] = gOFit o := by kernel_rfl
end Go.Proofs.YtfkpjbbkdkcdcabDoorA

namespace Go.Proofs.YtfkpjbbkdkcdcabDoorA
noncomputable def lpONumber_3s (again : Int -> (List Int) -> Int -> Int -> Option Out) (k0 : Int -> Int -> Int -> (List Int) -> Int -> Int -> Int -> (List Int) -> Nat -> Int -> Int -> Bool -> Int -> Bool -> Bool -> Option Out) (k1 : Int -> Int -> Int -> (List Int) -> Int -> Int -> Int -> (List Int) -> Nat -> Int -> Int -> Bool -> Int -> Bool -> Bool -> Int -> Bool -> Option Out) (k2 : Int -> Int -> Int -> Int -> Int -> (List Int) -> Int -> Int -> Int -> (List Int) -> Nat -> Int -> Int -> Bool -> Int -> Bool -> Bool -> Int -> Bool -> Int -> Int -> Int -> Int -> Int -> Int -> Int -> Int -> Int -> Int -> Int -> Int -> Option Out) (k3 : Int -> Int -> Int -> (List Int) -> Int -> Int -> Int -> (List Int) -> Nat -> Int -> Int -> Bool -> Int -> Bool -> Option Out) (k4 : Int -> Int -> Int -> Int -> Int -> (List Int) -> Int -> Int -> Int -> (List Int) -> Nat -> Int -> Int -> Bool -> Int -> Bool -> Int -> Int -> Int -> Int -> Int -> Int -> Int -> Int -> Int -> Int -> Int -> Int -> Option Out) (k5 : Int -> (List Int) -> Int -> Int -> Option Out) (v1 : Int) (v2 : List Int) (v3 : Int) (v4 : Int) : Option Out :=
 cond (decide (v4 < v3)) (
  cond (decide ((0 : Int) <= v4)) (
  cond (decide (v4 < ((v2.length : Nat) : Int))) (
  Option.bind (v2[(Int.toNat v4)]?) fun (e1 : Int) =>
  cond (decide (v4 = 0)) (
   cond (decide (e1 = 128)) (
    k0 v1 v4 e1 v2 v3 v4 v4 v2 (Int.toNat v4) e1 v4 (decide (v4 = 0)) e1 (decide (e1 = 128)) (decide (e1 = 128)))
   (
    cond (decide ((33554431 : Int) < v1)) (
     k1 v1 v4 e1 v2 v3 v4 v4 v2 (Int.toNat v4) e1 v4 (decide (v4 = 0)) e1 (decide (e1 = 128)) (decide (e1 = 128)) v1 (decide ((33554431 : Int) < v1)))
    (
     let x2 : Int := IntKind.u64.wrap (v1 * 2 ^ 7)
     let x3 : Int := IntKind.u8.wrap ((BitVec.ofInt 8 e1 &&& ~~~ BitVec.ofInt 8 128).toNat)
     let x4 : Int := IntKind.u64.wrap x3
     let x5 : Int := IntKind.u64.wrap ((BitVec.ofInt 64 x2 ||| BitVec.ofInt 64 x4).toNat)
     let x6 : Int := IntKind.u8.wrap ((BitVec.ofInt 8 e1 &&& BitVec.ofInt 8 128).toNat)
     cond (decide (x6 = 0)) (
      let x7 : Int := IntKind.u32.wrap x5
      let x8 : Int := IntKind.i64.wrap (v4 + 1)
      k2 x7 x8 x5 v4 e1 v2 v3 v4 v4 v2 (Int.toNat v4) e1 v4 (decide (v4 = 0)) e1 (decide (e1 = 128)) (decide (e1 = 128)) v1 (decide ((33554431 : Int) < v1)) v1 x2 e1 x3 x4 x5 e1 x6 x5 x7 v4 x8)
     (
      let x9 : Int := IntKind.i64.wrap (v4 + 1)
      again x5 v2 v3 x9))))
  (
   cond (decide ((33554431 : Int) < v1)) (
    k3 v1 v4 e1 v2 v3 v4 v4 v2 (Int.toNat v4) e1 v4 (decide (v4 = 0)) v1 (decide ((33554431 : Int) < v1)))
   (
    let x10 : Int := IntKind.u64.wrap (v1 * 2 ^ 7)
    let x11 : Int := IntKind.u8.wrap ((BitVec.ofInt 8 e1 &&& ~~~ BitVec.ofInt 8 128).toNat)
    let x12 : Int := IntKind.u64.wrap x11
    let x13 : Int := IntKind.u64.wrap ((BitVec.ofInt 64 x10 ||| BitVec.ofInt 64 x12).toNat)
    let x14 : Int := IntKind.u8.wrap ((BitVec.ofInt 8 e1 &&& BitVec.ofInt 8 128).toNat)
    cond (decide (x14 = 0)) (
     let x15 : Int := IntKind.u32.wrap x13
     let x16 : Int := IntKind.i64.wrap (v4 + 1)
     k4 x15 x16 x13 v4 e1 v2 v3 v4 v4 v2 (Int.toNat v4) e1 v4 (decide (v4 = 0)) v1 (decide ((33554431 : Int) < v1)) v1 x10 e1 x11 x12 x13 e1 x14 x13 x15 v4 x16)
    (
     let x17 : Int := IntKind.i64.wrap (v4 + 1)
     again x13 v2 v3 x17)))) none) none)
 (
  k5 v1 v2 v3 v4)
noncomputable def lpONumber_3 (k0 : Int -> Int -> Int -> (List Int) -> Int -> Int -> Int -> (List Int) -> Nat -> Int -> Int -> Bool -> Int -> Bool -> Bool -> Option Out) (k1 : Int -> Int -> Int -> (List Int) -> Int -> Int -> Int -> (List Int) -> Nat -> Int -> Int -> Bool -> Int -> Bool -> Bool -> Int -> Bool -> Option Out) (k2 : Int -> Int -> Int -> Int -> Int -> (List Int) -> Int -> Int -> Int -> (List Int) -> Nat -> Int -> Int -> Bool -> Int -> Bool -> Bool -> Int -> Bool -> Int -> Int -> Int -> Int -> Int -> Int -> Int -> Int -> Int -> Int -> Int -> Int -> Option Out) (k3 : Int -> Int -> Int -> (List Int) -> Int -> Int -> Int -> (List Int) -> Nat -> Int -> Int -> Bool -> Int -> Bool -> Option Out) (k4 : Int -> Int -> Int -> Int -> Int -> (List Int) -> Int -> Int -> Int -> (List Int) -> Nat -> Int -> Int -> Bool -> Int -> Bool -> Int -> Int -> Int -> Int -> Int -> Int -> Int -> Int -> Int -> Int -> Int -> Int -> Option Out) (k5 : Int -> (List Int) -> Int -> Int -> Option Out) : Nat -> Int -> (List Int) -> Int -> Int -> Option Out
 | 0 => fun _ _ _ _ => none
 | n + 1 => lpONumber_3s (lpONumber_3 k0 k1 k2 k3 k4 k5 n) k0 k1 k2 k3 k4 k5
noncomputable def LONumber_3 : St -> (Ex -> St -> Option Out) -> Option Out := fun σ k => match σ with
 | ⟨[(q1, .cl (.int .u64 v1)), (q2, .cl (.sli .u8 v2)), (q3, .cl (.int .i64 v3)), (q4, .cl (.int .i64 v4))], []⟩ => cond (Nat.beq q1 4 && Nat.beq q2 7 && Nat.beq q3 8 && Nat.beq q4 9) (shut (lpONumber_3 (fun y1 y2 y3 y4 y5 y6 y7 y8 y9 y10 y11 y12 y13 y14 y15 => k .ret ⟨[(2, .cl (.int .u32 0)), (3, .cl (.int .i64 0)), (4, .cl (.int .u64 y1)), (5, .cl (.int .i64 y2)), (6, .cl (.int .u8 y3)), (7, .cl (.sli .u8 y4)), (8, .cl (.int .i64 y5)), (9, .cl (.int .i64 y6)), (10, .cl (.bool true)), (11, .cl (.int .i64 y7)), (12, .cl (.vp (.sli .u8 y8) y9 0)), (13, .cl (.int .u8 y10)), (14, .cl (.int .i64 y11)), (15, .cl (.bool y12)), (16, .cl (.bool true)), (17, .cl (.int .u8 y13)), (18, .cl (.bool y14)), (19, .cl (.bool y15)), (20, .cl (.bool true)), (21, .tup []), (22, .tup []), (23, .cl (.bool true))], []⟩) (fun y1 y2 y3 y4 y5 y6 y7 y8 y9 y10 y11 y12 y13 y14 y15 y16 y17 => k .ret ⟨[(2, .cl (.int .u32 0)), (3, .cl (.int .i64 0)), (4, .cl (.int .u64 y1)), (5, .cl (.int .i64 y2)), (6, .cl (.int .u8 y3)), (7, .cl (.sli .u8 y4)), (8, .cl (.int .i64 y5)), (9, .cl (.int .i64 y6)), (10, .cl (.bool true)), (11, .cl (.int .i64 y7)), (12, .cl (.vp (.sli .u8 y8) y9 0)), (13, .cl (.int .u8 y10)), (14, .cl (.int .i64 y11)), (15, .cl (.bool y12)), (16, .cl (.bool true)), (17, .cl (.int .u8 y13)), (18, .cl (.bool y14)), (19, .cl (.bool y15)), (20, .cl (.bool false)), (21, .cl (.int .u64 y16)), (22, .cl (.bool y17)), (23, .cl (.bool true))], []⟩) (fun y1 y2 y3 y4 y5 y6 y7 y8 y9 y10 y11 y12 y13 y14 y15 y16 y17 y18 y19 y20 y21 y22 y23 y24 y25 y26 y27 y28 y29 y30 y31 => k .ret ⟨[(2, .cl (.int .u32 y1)), (3, .cl (.int .i64 y2)), (4, .cl (.int .u64 y3)), (5, .cl (.int .i64 y4)), (6, .cl (.int .u8 y5)), (7, .cl (.sli .u8 y6)), (8, .cl (.int .i64 y7)), (9, .cl (.int .i64 y8)), (10, .cl (.bool true)), (11, .cl (.int .i64 y9)), (12, .cl (.vp (.sli .u8 y10) y11 0)), (13, .cl (.int .u8 y12)), (14, .cl (.int .i64 y13)), (15, .cl (.bool y14)), (16, .cl (.bool true)), (17, .cl (.int .u8 y15)), (18, .cl (.bool y16)), (19, .cl (.bool y17)), (20, .cl (.bool false)), (21, .cl (.int .u64 y18)), (22, .cl (.bool y19)), (23, .cl (.bool false)), (24, .cl (.int .u64 y20)), (25, .cl (.int .u64 y21)), (26, .cl (.int .u8 y22)), (27, .cl (.int .u8 y23)), (28, .cl (.int .u64 y24)), (29, .cl (.int .u64 y25)), (30, .cl (.int .u8 y26)), (31, .cl (.int .u8 y27)), (32, .cl (.bool true)), (33, .cl (.int .u64 y28)), (34, .cl (.int .u32 y29)), (35, .cl (.int .i64 y30)), (36, .cl (.int .i64 y31))], []⟩) (fun y1 y2 y3 y4 y5 y6 y7 y8 y9 y10 y11 y12 y13 y14 => k .ret ⟨[(2, .cl (.int .u32 0)), (3, .cl (.int .i64 0)), (4, .cl (.int .u64 y1)), (5, .cl (.int .i64 y2)), (6, .cl (.int .u8 y3)), (7, .cl (.sli .u8 y4)), (8, .cl (.int .i64 y5)), (9, .cl (.int .i64 y6)), (10, .cl (.bool true)), (11, .cl (.int .i64 y7)), (12, .cl (.vp (.sli .u8 y8) y9 0)), (13, .cl (.int .u8 y10)), (14, .cl (.int .i64 y11)), (15, .cl (.bool y12)), (16, .cl (.bool false)), (17, .tup []), (18, .tup []), (19, .cl (.bool false)), (20, .cl (.bool false)), (21, .cl (.int .u64 y13)), (22, .cl (.bool y14)), (23, .cl (.bool true))], []⟩) (fun y1 y2 y3 y4 y5 y6 y7 y8 y9 y10 y11 y12 y13 y14 y15 y16 y17 y18 y19 y20 y21 y22 y23 y24 y25 y26 y27 y28 => k .ret ⟨[(2, .cl (.int .u32 y1)), (3, .cl (.int .i64 y2)), (4, .cl (.int .u64 y3)), (5, .cl (.int .i64 y4)), (6, .cl (.int .u8 y5)), (7, .cl (.sli .u8 y6)), (8, .cl (.int .i64 y7)), (9, .cl (.int .i64 y8)), (10, .cl (.bool true)), (11, .cl (.int .i64 y9)), (12, .cl (.vp (.sli .u8 y10) y11 0)), (13, .cl (.int .u8 y12)), (14, .cl (.int .i64 y13)), (15, .cl (.bool y14)), (16, .cl (.bool false)), (17, .tup []), (18, .tup []), (19, .cl (.bool false)), (20, .cl (.bool false)), (21, .cl (.int .u64 y15)), (22, .cl (.bool y16)), (23, .cl (.bool false)), (24, .cl (.int .u64 y17)), (25, .cl (.int .u64 y18)), (26, .cl (.int .u8 y19)), (27, .cl (.int .u8 y20)), (28, .cl (.int .u64 y21)), (29, .cl (.int .u64 y22)), (30, .cl (.int .u8 y23)), (31, .cl (.int .u8 y24)), (32, .cl (.bool true)), (33, .cl (.int .u64 y25)), (34, .cl (.int .u32 y26)), (35, .cl (.int .i64 y27)), (36, .cl (.int .i64 y28))], []⟩) (fun y1 y2 y3 y4 => k (.exit 0) ⟨[(4, .cl (.int .u64 y1)), (7, .cl (.sli .u8 y2)), (8, .cl (.int .i64 y3)), (9, .cl (.int .i64 y4)), (10, .cl (.bool false))], []⟩) FUEL) v1 v2 v3 v4) none
 | _ => none
noncomputable def EONumber : Env := {
 orc := fun _ => fun _ _ => Tree.fail
 pre := fun _ => fun _ _ => true
 byref := fun _ => []
 keep := fun _ => false
 live := fun r => cond (Nat.beq r 3) ([4, 7, 8, 9]) ([])
 ren := fun _ => []
 glob := glVal
 nt := 38
 lp := fun r => cond (Nat.beq r 3) (some (LONumber_3)) (none)
}
noncomputable def blpONumber_3 : Code := (Cd.fst (Cd.fst (Cd.snd (Cd.fst (Cd.snd (Cd.snd (Tryd.f62.body.getD .skip)))))))
theorem lpONumber_3_step (k : Ex -> St -> Option Out) (n : Nat) (v1 : Int) (v2 : List Int) (v3 : Int) (v4 : Int) : iterK (n + 1) (codeK Tryd.prog (EONumber) 40 blpONumber_3) (head (EONumber) 3) ⟨[(4, .cl (.int .u64 v1)), (7, .cl (.sli .u8 v2)), (8, .cl (.int .i64 v3)), (9, .cl (.int .i64 v4))], []⟩ k = lpONumber_3s (fun v1 v2 v3 v4 => iterK n (codeK Tryd.prog (EONumber) 40 blpONumber_3) (head (EONumber) 3) ⟨[(4, .cl (.int .u64 v1)), (7, .cl (.sli .u8 v2)), (8, .cl (.int .i64 v3)), (9, .cl (.int .i64 v4))], []⟩ k) (fun y1 y2 y3 y4 y5 y6 y7 y8 y9 y10 y11 y12 y13 y14 y15 => k .ret ⟨[(2, .cl (.int .u32 0)), (3, .cl (.int .i64 0)), (4, .cl (.int .u64 y1)), (5, .cl (.int .i64 y2)), (6, .cl (.int .u8 y3)), (7, .cl (.sli .u8 y4)), (8, .cl (.int .i64 y5)), (9, .cl (.int .i64 y6)), (10, .cl (.bool true)), (11, .cl (.int .i64 y7)), (12, .cl (.vp (.sli .u8 y8) y9 0)), (13, .cl (.int .u8 y10)), (14, .cl (.int .i64 y11)), (15, .cl (.bool y12)), (16, .cl (.bool true)), (17, .cl (.int .u8 y13)), (18, .cl (.bool y14)), (19, .cl (.bool y15)), (20, .cl (.bool true)), (21, .tup []), (22, .tup []), (23, .cl (.bool true))], []⟩) (fun y1 y2 y3 y4 y5 y6 y7 y8 y9 y10 y11 y12 y13 y14 y15 y16 y17 => k .ret ⟨[(2, .cl (.int .u32 0)), (3, .cl (.int .i64 0)), (4, .cl (.int .u64 y1)), (5, .cl (.int .i64 y2)), (6, .cl (.int .u8 y3)), (7, .cl (.sli .u8 y4)), (8, .cl (.int .i64 y5)), (9, .cl (.int .i64 y6)), (10, .cl (.bool true)), (11, .cl (.int .i64 y7)), (12, .cl (.vp (.sli .u8 y8) y9 0)), (13, .cl (.int .u8 y10)), (14, .cl (.int .i64 y11)), (15, .cl (.bool y12)), (16, .cl (.bool true)), (17, .cl (.int .u8 y13)), (18, .cl (.bool y14)), (19, .cl (.bool y15)), (20, .cl (.bool false)), (21, .cl (.int .u64 y16)), (22, .cl (.bool y17)), (23, .cl (.bool true))], []⟩) (fun y1 y2 y3 y4 y5 y6 y7 y8 y9 y10 y11 y12 y13 y14 y15 y16 y17 y18 y19 y20 y21 y22 y23 y24 y25 y26 y27 y28 y29 y30 y31 => k .ret ⟨[(2, .cl (.int .u32 y1)), (3, .cl (.int .i64 y2)), (4, .cl (.int .u64 y3)), (5, .cl (.int .i64 y4)), (6, .cl (.int .u8 y5)), (7, .cl (.sli .u8 y6)), (8, .cl (.int .i64 y7)), (9, .cl (.int .i64 y8)), (10, .cl (.bool true)), (11, .cl (.int .i64 y9)), (12, .cl (.vp (.sli .u8 y10) y11 0)), (13, .cl (.int .u8 y12)), (14, .cl (.int .i64 y13)), (15, .cl (.bool y14)), (16, .cl (.bool true)), (17, .cl (.int .u8 y15)), (18, .cl (.bool y16)), (19, .cl (.bool y17)), (20, .cl (.bool false)), (21, .cl (.int .u64 y18)), (22, .cl (.bool y19)), (23, .cl (.bool false)), (24, .cl (.int .u64 y20)), (25, .cl (.int .u64 y21)), (26, .cl (.int .u8 y22)), (27, .cl (.int .u8 y23)), (28, .cl (.int .u64 y24)), (29, .cl (.int .u64 y25)), (30, .cl (.int .u8 y26)), (31, .cl (.int .u8 y27)), (32, .cl (.bool true)), (33, .cl (.int .u64 y28)), (34, .cl (.int .u32 y29)), (35, .cl (.int .i64 y30)), (36, .cl (.int .i64 y31))], []⟩) (fun y1 y2 y3 y4 y5 y6 y7 y8 y9 y10 y11 y12 y13 y14 => k .ret ⟨[(2, .cl (.int .u32 0)), (3, .cl (.int .i64 0)), (4, .cl (.int .u64 y1)), (5, .cl (.int .i64 y2)), (6, .cl (.int .u8 y3)), (7, .cl (.sli .u8 y4)), (8, .cl (.int .i64 y5)), (9, .cl (.int .i64 y6)), (10, .cl (.bool true)), (11, .cl (.int .i64 y7)), (12, .cl (.vp (.sli .u8 y8) y9 0)), (13, .cl (.int .u8 y10)), (14, .cl (.int .i64 y11)), (15, .cl (.bool y12)), (16, .cl (.bool false)), (17, .tup []), (18, .tup []), (19, .cl (.bool false)), (20, .cl (.bool false)), (21, .cl (.int .u64 y13)), (22, .cl (.bool y14)), (23, .cl (.bool true))], []⟩) (fun y1 y2 y3 y4 y5 y6 y7 y8 y9 y10 y11 y12 y13 y14 y15 y16 y17 y18 y19 y20 y21 y22 y23 y24 y25 y26 y27 y28 => k .ret ⟨[(2, .cl (.int .u32 y1)), (3, .cl (.int .i64 y2)), (4, .cl (.int .u64 y3)), (5, .cl (.int .i64 y4)), (6, .cl (.int .u8 y5)), (7, .cl (.sli .u8 y6)), (8, .cl (.int .i64 y7)), (9, .cl (.int .i64 y8)), (10, .cl (.bool true)), (11, .cl (.int .i64 y9)), (12, .cl (.vp (.sli .u8 y10) y11 0)), (13, .cl (.int .u8 y12)), (14, .cl (.int .i64 y13)), (15, .cl (.bool y14)), (16, .cl (.bool false)), (17, .tup []), (18, .tup []), (19, .cl (.bool false)), (20, .cl (.bool false)), (21, .cl (.int .u64 y15)), (22, .cl (.bool y16)), (23, .cl (.bool false)), (24, .cl (.int .u64 y17)), (25, .cl (.int .u64 y18)), (26, .cl (.int .u8 y19)), (27, .cl (.int .u8 y20)), (28, .cl (.int .u64 y21)), (29, .cl (.int .u64 y22)), (30, .cl (.int .u8 y23)), (31, .cl (.int .u8 y24)), (32, .cl (.bool true)), (33, .cl (.int .u64 y25)), (34, .cl (.int .u32 y26)), (35, .cl (.int .i64 y27)), (36, .cl (.int .i64 y28))], []⟩) (fun y1 y2 y3 y4 => k (.exit 0) ⟨[(4, .cl (.int .u64 y1)), (7, .cl (.sli .u8 y2)), (8, .cl (.int .i64 y3)), (9, .cl (.int .i64 y4)), (10, .cl (.bool false))], []⟩) v1 v2 v3 v4 := by kernel_rfl
theorem lpONumber_3_eq (k : Ex -> St -> Option Out) : ∀ (n : Nat), ∀ (v1 : Int) (v2 : List Int) (v3 : Int) (v4 : Int), iterK n (codeK Tryd.prog (EONumber) 40 blpONumber_3) (head (EONumber) 3) ⟨[(4, .cl (.int .u64 v1)), (7, .cl (.sli .u8 v2)), (8, .cl (.int .i64 v3)), (9, .cl (.int .i64 v4))], []⟩ k = lpONumber_3 (fun y1 y2 y3 y4 y5 y6 y7 y8 y9 y10 y11 y12 y13 y14 y15 => k .ret ⟨[(2, .cl (.int .u32 0)), (3, .cl (.int .i64 0)), (4, .cl (.int .u64 y1)), (5, .cl (.int .i64 y2)), (6, .cl (.int .u8 y3)), (7, .cl (.sli .u8 y4)), (8, .cl (.int .i64 y5)), (9, .cl (.int .i64 y6)), (10, .cl (.bool true)), (11, .cl (.int .i64 y7)), (12, .cl (.vp (.sli .u8 y8) y9 0)), (13, .cl (.int .u8 y10)), (14, .cl (.int .i64 y11)), (15, .cl (.bool y12)), (16, .cl (.bool true)), (17, .cl (.int .u8 y13)), (18, .cl (.bool y14)), (19, .cl (.bool y15)), (20, .cl (.bool true)), (21, .tup []), (22, .tup []), (23, .cl (.bool true))], []⟩) (fun y1 y2 y3 y4 y5 y6 y7 y8 y9 y10 y11 y12 y13 y14 y15 y16 y17 => k .ret ⟨[(2, .cl (.int .u32 0)), (3, .cl (.int .i64 0)), (4, .cl (.int .u64 y1)), (5, .cl (.int .i64 y2)), (6, .cl (.int .u8 y3)), (7, .cl (.sli .u8 y4)), (8, .cl (.int .i64 y5)), (9, .cl (.int .i64 y6)), (10, .cl (.bool true)), (11, .cl (.int .i64 y7)), (12, .cl (.vp (.sli .u8 y8) y9 0)), (13, .cl (.int .u8 y10)), (14, .cl (.int .i64 y11)), (15, .cl (.bool y12)), (16, .cl (.bool true)), (17, .cl (.int .u8 y13)), (18, .cl (.bool y14)), (19, .cl (.bool y15)), (20, .cl (.bool false)), (21, .cl (.int .u64 y16)), (22, .cl (.bool y17)), (23, .cl (.bool true))], []⟩) (fun y1 y2 y3 y4 y5 y6 y7 y8 y9 y10 y11 y12 y13 y14 y15 y16 y17 y18 y19 y20 y21 y22 y23 y24 y25 y26 y27 y28 y29 y30 y31 => k .ret ⟨[(2, .cl (.int .u32 y1)), (3, .cl (.int .i64 y2)), (4, .cl (.int .u64 y3)), (5, .cl (.int .i64 y4)), (6, .cl (.int .u8 y5)), (7, .cl (.sli .u8 y6)), (8, .cl (.int .i64 y7)), (9, .cl (.int .i64 y8)), (10, .cl (.bool true)), (11, .cl (.int .i64 y9)), (12, .cl (.vp (.sli .u8 y10) y11 0)), (13, .cl (.int .u8 y12)), (14, .cl (.int .i64 y13)), (15, .cl (.bool y14)), (16, .cl (.bool true)), (17, .cl (.int .u8 y15)), (18, .cl (.bool y16)), (19, .cl (.bool y17)), (20, .cl (.bool false)), (21, .cl (.int .u64 y18)), (22, .cl (.bool y19)), (23, .cl (.bool false)), (24, .cl (.int .u64 y20)), (25, .cl (.int .u64 y21)), (26, .cl (.int .u8 y22)), (27, .cl (.int .u8 y23)), (28, .cl (.int .u64 y24)), (29, .cl (.int .u64 y25)), (30, .cl (.int .u8 y26)), (31, .cl (.int .u8 y27)), (32, .cl (.bool true)), (33, .cl (.int .u64 y28)), (34, .cl (.int .u32 y29)), (35, .cl (.int .i64 y30)), (36, .cl (.int .i64 y31))], []⟩) (fun y1 y2 y3 y4 y5 y6 y7 y8 y9 y10 y11 y12 y13 y14 => k .ret ⟨[(2, .cl (.int .u32 0)), (3, .cl (.int .i64 0)), (4, .cl (.int .u64 y1)), (5, .cl (.int .i64 y2)), (6, .cl (.int .u8 y3)), (7, .cl (.sli .u8 y4)), (8, .cl (.int .i64 y5)), (9, .cl (.int .i64 y6)), (10, .cl (.bool true)), (11, .cl (.int .i64 y7)), (12, .cl (.vp (.sli .u8 y8) y9 0)), (13, .cl (.int .u8 y10)), (14, .cl (.int .i64 y11)), (15, .cl (.bool y12)), (16, .cl (.bool false)), (17, .tup []), (18, .tup []), (19, .cl (.bool false)), (20, .cl (.bool false)), (21, .cl (.int .u64 y13)), (22, .cl (.bool y14)), (23, .cl (.bool true))], []⟩) (fun y1 y2 y3 y4 y5 y6 y7 y8 y9 y10 y11 y12 y13 y14 y15 y16 y17 y18 y19 y20 y21 y22 y23 y24 y25 y26 y27 y28 => k .ret ⟨[(2, .cl (.int .u32 y1)), (3, .cl (.int .i64 y2)), (4, .cl (.int .u64 y3)), (5, .cl (.int .i64 y4)), (6, .cl (.int .u8 y5)), (7, .cl (.sli .u8 y6)), (8, .cl (.int .i64 y7)), (9, .cl (.int .i64 y8)), (10, .cl (.bool true)), (11, .cl (.int .i64 y9)), (12, .cl (.vp (.sli .u8 y10) y11 0)), (13, .cl (.int .u8 y12)), (14, .cl (.int .i64 y13)), (15, .cl (.bool y14)), (16, .cl (.bool false)), (17, .tup []), (18, .tup []), (19, .cl (.bool false)), (20, .cl (.bool false)), (21, .cl (.int .u64 y15)), (22, .cl (.bool y16)), (23, .cl (.bool false)), (24, .cl (.int .u64 y17)), (25, .cl (.int .u64 y18)), (26, .cl (.int .u8 y19)), (27, .cl (.int .u8 y20)), (28, .cl (.int .u64 y21)), (29, .cl (.int .u64 y22)), (30, .cl (.int .u8 y23)), (31, .cl (.int .u8 y24)), (32, .cl (.bool true)), (33, .cl (.int .u64 y25)), (34, .cl (.int .u32 y26)), (35, .cl (.int .i64 y27)), (36, .cl (.int .i64 y28))], []⟩) (fun y1 y2 y3 y4 => k (.exit 0) ⟨[(4, .cl (.int .u64 y1)), (7, .cl (.sli .u8 y2)), (8, .cl (.int .i64 y3)), (9, .cl (.int .i64 y4)), (10, .cl (.bool false))], []⟩) n v1 v2 v3 v4
 | 0 => by intros; rfl
 | n + 1 => by
  intros
  rw [lpONumber_3_step]
  have ih := lpONumber_3_eq k n
  simp only [lpONumber_3, ih]
theorem LONumber_3_ok : ∀ (σ : St) (k : Ex -> St -> Option Out) (r : Out), LONumber_3 σ k = some r -> ∃ n, iterK n (codeK Tryd.prog (EONumber) 40 blpONumber_3) (head (EONumber) 3) σ k = some r := by
 intro σ k r h
 unfold LONumber_3 at h
 split at h
 ·replace h := cond_some h
  obtain ⟨hc, h⟩ := h
  simp only [Bool.and_eq_true, beq_prop, decide_eq_true_eq, Bool.not_eq_true'] at hc
  obtain ⟨⟨⟨rfl, rfl⟩, rfl⟩, rfl⟩ := hc
  rw [shut_eq] at h
  exact ⟨FUEL, (lpONumber_3_eq k FUEL _ _ _ _ ).trans h⟩
 ·cases h
theorem loopsONumber : ∀ c, Tryd.f62.body = some c -> LoopsOk Tryd.prog (EONumber) 40 c := by
 intro c hc
 cases hc
 exact ⟨trivial, ⟨trivial, ⟨⟨trivial, ⟨⟨trivial, ⟨⟨trivial, trivial, jn_none rfl⟩, ⟨⟨trivial, ⟨⟨trivial, ⟨⟨trivial, trivial, jn_none rfl⟩, trivial, jn_none rfl⟩, jn_none rfl⟩, ⟨trivial, ⟨trivial, ⟨⟨trivial, trivial, jn_none rfl⟩, trivial, jn_none rfl⟩, jn_none rfl⟩, jn_none rfl⟩, jn_none rfl⟩, jn_none rfl⟩, trivial, jn_none rfl⟩, jn_none rfl⟩, jn_none rfl⟩, lp_some rfl (LONumber_3_ok)⟩, jn_none rfl⟩, ⟨trivial, trivial, jn_none rfl⟩, jn_none rfl⟩, jn_none rfl⟩, jn_none rfl⟩
noncomputable def gONumber (b : List Int) : Option Out :=
 shut (lpONumber_3
 (fun (y1 : Int) (y2 : Int) (y3 : Int) (y4 : List Int) (y5 : Int) (y6 : Int) (y7 : Int) (y8 : List Int) (y9 : Nat) (y10 : Int) (y11 : Int) (y12 : Bool) (y13 : Int) (y14 : Bool) (y15 : Bool) =>
  some (.ret [.cl (.int .u32 0), .cl (.int .i64 0)] []))
 (fun (y16 : Int) (y17 : Int) (y18 : Int) (y19 : List Int) (y20 : Int) (y21 : Int) (y22 : Int) (y23 : List Int) (y24 : Nat) (y25 : Int) (y26 : Int) (y27 : Bool) (y28 : Int) (y29 : Bool) (y30 : Bool) (y31 : Int) (y32 : Bool) =>
  some (.ret [.cl (.int .u32 0), .cl (.int .i64 0)] []))
 (fun (y33 : Int) (y34 : Int) (y35 : Int) (y36 : Int) (y37 : Int) (y38 : List Int) (y39 : Int) (y40 : Int) (y41 : Int) (y42 : List Int) (y43 : Nat) (y44 : Int) (y45 : Int) (y46 : Bool) (y47 : Int) (y48 : Bool) (y49 : Bool) (y50 : Int) (y51 : Bool) (y52 : Int) (y53 : Int) (y54 : Int) (y55 : Int) (y56 : Int) (y57 : Int) (y58 : Int) (y59 : Int) (y60 : Int) (y61 : Int) (y62 : Int) (y63 : Int) =>
  some (.ret [.cl (.int .u32 y33), .cl (.int .i64 y34)] []))
 (fun (y64 : Int) (y65 : Int) (y66 : Int) (y67 : List Int) (y68 : Int) (y69 : Int) (y70 : Int) (y71 : List Int) (y72 : Nat) (y73 : Int) (y74 : Int) (y75 : Bool) (y76 : Int) (y77 : Bool) =>
  some (.ret [.cl (.int .u32 0), .cl (.int .i64 0)] []))
 (fun (y78 : Int) (y79 : Int) (y80 : Int) (y81 : Int) (y82 : Int) (y83 : List Int) (y84 : Int) (y85 : Int) (y86 : Int) (y87 : List Int) (y88 : Nat) (y89 : Int) (y90 : Int) (y91 : Bool) (y92 : Int) (y93 : Bool) (y94 : Int) (y95 : Int) (y96 : Int) (y97 : Int) (y98 : Int) (y99 : Int) (y100 : Int) (y101 : Int) (y102 : Int) (y103 : Int) (y104 : Int) (y105 : Int) =>
  some (.ret [.cl (.int .u32 y78), .cl (.int .i64 y79)] []))
 (fun (y106 : Int) (y107 : List Int) (y108 : Int) (y109 : Int) =>
  some (.ret [.cl (.int .u32 0), .cl (.int .i64 0)] []))
 FUEL) 0 b ((b.length : Nat) : Int) 0
theorem gONumber_eq (b : List Int) : bodyK Tryd.prog (EONumber) 40 false Tryd.f62 [.cl (.sli .u8 b)] [] = gONumber b := by kernel_rfl
end Go.Proofs.YtfkpjbbkdkcdcabDoorA

namespace Go.Proofs.YtfkpjbbkdkcdcabDoorA
noncomputable def EONumbers : Env := {
 orc := fun _ => fun _ _ => Tree.fail
 pre := fun _ => fun _ _ => true
 byref := fun _ => []
 keep := fun _ => false
 live := fun _ => []
 ren := fun _ => []
 glob := glVal
 nt := 4
 lp := fun _ => none
}
theorem loopsONumbers : ∀ c, Tryd.f51.body = some c -> LoopsOk Tryd.prog (EONumbers) 40 c := by
 intro c hc
 cases hc
 exact ⟨trivial, ⟨trivial, trivial, jn_none rfl⟩, jn_none rfl⟩
noncomputable def gONumbers (b : List Int) : Option Out :=
 some (.ret [.fn (.func 61) [] [.ptr 0 0 0]] [some ⟨.var [.cl (.sli .u8 b)], false⟩])
theorem gONumbers_eq (b : List Int) : bodyK Tryd.prog (EONumbers) 40 true Tryd.f51 [.cl (.sli .u8 b)] [] = gONumbers b := by kernel_rfl
end Go.Proofs.YtfkpjbbkdkcdcabDoorA

namespace Go.Proofs.YtfkpjbbkdkcdcabDoorA
noncomputable def rlOParse_3s (again : Nat -> (List Int) -> Option Out) (k0 : Nat -> (List Int) -> Option Out) (k1 : Nat -> (List Int) -> Option Out) (e1 : Int) (e2 : Bool) (v1 : Nat) (v2 : List Int) : Option Out :=
 cond (!e2) (
  k0 v1 v2)
 (
  cond (decide ((20 : Int) < ((v1 : Nat) : Int))) (
   k0 v1 v2)
  (
   cond (decide (((v1 : Nat) : Int) = 0)) (
    let x1 : Int := IntKind.u32.wrap (Int.tdiv e1 40)
    let x2 : Int := cond (decide ((2 : Int) < x1)) 2 x1
    let l3 : List Int := v2 ++ [x2]
    cond (Nat.ble (l3.length * 4) LIMN) (
    cond (Nat.ble l3.length LIMN) (
    let x4 : Int := IntKind.u32.wrap ((40 : Int) * x2)
    let x5 : Int := IntKind.u32.wrap (e1 - x4)
    let l6 : List Int := l3 ++ [x5]
    cond (Nat.ble (l6.length * 4) LIMN) (
    cond (Nat.ble l6.length LIMN) (
    again l6.length l6) none) none) none) none)
   (
    let l7 : List Int := v2 ++ [e1]
    cond (Nat.ble (l7.length * 4) LIMN) (
    cond (Nat.ble l7.length LIMN) (
    again l7.length l7) none) none)))
noncomputable def rlOParse_3 (k0 : Nat -> (List Int) -> Option Out) (k1 : Nat -> (List Int) -> Option Out) : List (List CV) -> Nat -> (List Int) -> Option Out
 | [] => fun v1 v2 => k1 v1 v2
 | x :: r => rlOParse_3s (rlOParse_3 k0 k1 r) k0 k1 (cvInt (x.getD 0 .nili)) (cvBool (x.getD 1 .nili))
noncomputable def ROParse_3 : St -> List (List CV) -> (Ex -> St -> Option Out) -> Option Out := fun σ xs k => match σ with
 | ⟨[(q1, .ptr q2 q3 q4), (q5, .ptr q6 q7 q8), (q9, .ptr q10 q11 q12)], [(q13, ⟨.var [.nils], false⟩), (q14, ⟨.var [.cl (.int .i64 q15)], false⟩), (q16, ⟨.var [.ref q17 q18 v1 true q19], false⟩), (q20, ⟨.ints .u32 v2, false⟩)]⟩ => cond (List.all xs okONums) (cond (Nat.beq q1 2 && Nat.beq q2 0 && Nat.beq q3 0 && Nat.beq q4 0 && Nat.beq q5 3 && Nat.beq q6 1 && Nat.beq q7 0 && Nat.beq q8 0 && Nat.beq q9 4 && Nat.beq q10 2 && Nat.beq q11 0 && Nat.beq q12 0 && Nat.beq q13 0 && Nat.beq q14 1 && decide (q15 = 0) && Nat.beq q16 2 && Nat.beq q17 100 && Nat.beq q18 0 && Nat.beq q19 1 && Nat.beq q20 100) (shut (rlOParse_3 (fun y1 y2 => k .ret ⟨[(2, .ptr 0 0 0), (3, .ptr 1 0 0), (4, .ptr 2 0 0)], [(0, ⟨.var [.nils], false⟩), (1, ⟨.var [.cl (.int .i64 5)], false⟩), (2, ⟨.var [.ref 100 0 y1 true 1], false⟩), (100, ⟨.ints .u32 y2, false⟩)]⟩) (fun y1 y2 => k .normal ⟨[(2, .ptr 0 0 0), (3, .ptr 1 0 0), (4, .ptr 2 0 0)], [(0, ⟨.var [.nils], false⟩), (1, ⟨.var [.cl (.int .i64 0)], false⟩), (2, ⟨.var [.ref 100 0 y1 true 1], false⟩), (100, ⟨.ints .u32 y2, false⟩)]⟩)) xs v1 v2) none) none
 | _ => none
noncomputable def EOParse : Env := {
 orc := fun g => cond (Nat.beq g 49) (SOFit) (cond (Nat.beq g 51) (SONumbers) (fun _ _ => Tree.fail))
 pre := fun g => cond (Nat.beq g 49) (preOFit) (cond (Nat.beq g 51) (preONumbers) (cond (Nat.beq g 61) (preONums) (fun _ _ => true)))
 byref := fun _ => []
 keep := fun g => cond (Nat.beq g 51) (true) (false)
 live := fun r => cond (Nat.beq r 3) ([2, 3, 4]) ([])
 ren := fun _ => []
 vir := fun r => cond (Nat.beq r 3) ([(2, 0, 100, .ints .u32 [])]) ([])
 glob := glVal
 nt := 41
 lp := fun _ => none
 lowr := fun r => cond (Nat.beq r 3) ([(66, 0), (67, 1), (68, 2)]) ([])
 sq := fun g => cond (Nat.beq g 61) (QONums) (fun _ _ => none)
 rf := fun r => cond (Nat.beq r 3) (some (ROParse_3)) (none)
}
noncomputable def arlOParse_3 : Code := Cd.fst (Cd.fst (Cd.snd (Cd.fst (Cd.snd (Cd.snd (Tryd.f36.body.getD .skip))))))
noncomputable def brlOParse_3 : Code := Cd.snd (Cd.fst (Cd.snd (Cd.fst (Cd.snd (Cd.snd (Tryd.f36.body.getD .skip))))))
theorem rlOParse_3_step (k : Ex -> St -> Option Out) (r : List (List CV)) (e1 : Int) (e2 : Bool) (v1 : Nat) (v2 : List Int) : rangeK (EOParse) 41 3 [10, 11] (codeK Tryd.prog (EOParse) 40 arlOParse_3) (codeK Tryd.prog (EOParse) 40 brlOParse_3) ([.int .u32 e1, .bool e2] :: r) ⟨[(2, .ptr 0 0 0), (3, .ptr 1 0 0), (4, .ptr 2 0 0)], [(0, ⟨.var [.nils], false⟩), (1, ⟨.var [.cl (.int .i64 0)], false⟩), (2, ⟨.var [.ref 100 0 v1 true 1], false⟩), (100, ⟨.ints .u32 v2, false⟩)]⟩ k = rlOParse_3s (fun v1 v2 => rangeK (EOParse) 41 3 [10, 11] (codeK Tryd.prog (EOParse) 40 arlOParse_3) (codeK Tryd.prog (EOParse) 40 brlOParse_3) r ⟨[(2, .ptr 0 0 0), (3, .ptr 1 0 0), (4, .ptr 2 0 0)], [(0, ⟨.var [.nils], false⟩), (1, ⟨.var [.cl (.int .i64 0)], false⟩), (2, ⟨.var [.ref 100 0 v1 true 1], false⟩), (100, ⟨.ints .u32 v2, false⟩)]⟩ k) (fun y1 y2 => k .ret ⟨[(2, .ptr 0 0 0), (3, .ptr 1 0 0), (4, .ptr 2 0 0)], [(0, ⟨.var [.nils], false⟩), (1, ⟨.var [.cl (.int .i64 5)], false⟩), (2, ⟨.var [.ref 100 0 y1 true 1], false⟩), (100, ⟨.ints .u32 y2, false⟩)]⟩) (fun y1 y2 => k .normal ⟨[(2, .ptr 0 0 0), (3, .ptr 1 0 0), (4, .ptr 2 0 0)], [(0, ⟨.var [.nils], false⟩), (1, ⟨.var [.cl (.int .i64 0)], false⟩), (2, ⟨.var [.ref 100 0 y1 true 1], false⟩), (100, ⟨.ints .u32 y2, false⟩)]⟩) e1 e2 v1 v2 := by kernel_rfl
theorem rlOParse_3_eq (k : Ex -> St -> Option Out) : ∀ (xs : List (List CV)), List.all xs okONums = true -> ∀ (v1 : Nat) (v2 : List Int), rangeK (EOParse) 41 3 [10, 11] (codeK Tryd.prog (EOParse) 40 arlOParse_3) (codeK Tryd.prog (EOParse) 40 brlOParse_3) xs ⟨[(2, .ptr 0 0 0), (3, .ptr 1 0 0), (4, .ptr 2 0 0)], [(0, ⟨.var [.nils], false⟩), (1, ⟨.var [.cl (.int .i64 0)], false⟩), (2, ⟨.var [.ref 100 0 v1 true 1], false⟩), (100, ⟨.ints .u32 v2, false⟩)]⟩ k = rlOParse_3 (fun y1 y2 => k .ret ⟨[(2, .ptr 0 0 0), (3, .ptr 1 0 0), (4, .ptr 2 0 0)], [(0, ⟨.var [.nils], false⟩), (1, ⟨.var [.cl (.int .i64 5)], false⟩), (2, ⟨.var [.ref 100 0 y1 true 1], false⟩), (100, ⟨.ints .u32 y2, false⟩)]⟩) (fun y1 y2 => k .normal ⟨[(2, .ptr 0 0 0), (3, .ptr 1 0 0), (4, .ptr 2 0 0)], [(0, ⟨.var [.nils], false⟩), (1, ⟨.var [.cl (.int .i64 0)], false⟩), (2, ⟨.var [.ref 100 0 y1 true 1], false⟩), (100, ⟨.ints .u32 y2, false⟩)]⟩) xs v1 v2
 | [], _ => by intros; rfl
 | x :: r, h => by
  intros
  simp only [List.all_cons, Bool.and_eq_true] at h
  obtain ⟨e1, e2, rfl⟩ := okONums_of h.1
  rw [rlOParse_3_step]
  have ih := rlOParse_3_eq k r h.2
  simp only [ih]
  rfl
theorem ROParse_3_ok : ∀ (σ : St) (xs : List (List CV)) (k : Ex -> St -> Option Out) (r : Out), ROParse_3 σ xs k = some r -> rangeK (EOParse) 41 3 [10, 11] (codeK Tryd.prog (EOParse) 40 arlOParse_3) (codeK Tryd.prog (EOParse) 40 brlOParse_3) xs σ k = some r := by
 intro σ xs k r h
 unfold ROParse_3 at h
 split at h
 ·replace h := cond_some h
  obtain ⟨hx, h⟩ := h
  replace h := cond_some h
  obtain ⟨hc, h⟩ := h
  simp only [Bool.and_eq_true, beq_prop, decide_eq_true_eq, Bool.not_eq_true'] at hc
  obtain ⟨⟨⟨⟨⟨⟨⟨⟨⟨⟨⟨⟨⟨⟨⟨⟨⟨⟨⟨rfl, rfl⟩, rfl⟩, rfl⟩, rfl⟩, rfl⟩, rfl⟩, rfl⟩, rfl⟩, rfl⟩, rfl⟩, rfl⟩, rfl⟩, rfl⟩, rfl⟩, rfl⟩, rfl⟩, rfl⟩, rfl⟩, rfl⟩ := hc
  rw [shut_eq] at h
  exact (rlOParse_3_eq k xs hx _ _ ).trans h
 ·cases h
theorem loopsOParse : ∀ c, Tryd.f36.body = some c -> LoopsOk Tryd.prog (EOParse) 40 c := by
 intro c hc
 cases hc
 exact ⟨trivial, ⟨trivial, ⟨⟨trivial, ⟨⟨trivial, trivial, jn_none rfl⟩, ⟨⟨trivial, ⟨⟨trivial, trivial, jn_none rfl⟩, trivial, jn_none rfl⟩, jn_none rfl⟩, ⟨⟨trivial, ⟨⟨trivial, ⟨trivial, trivial, jn_none rfl⟩, jn_none rfl⟩, trivial, jn_none rfl⟩, jn_none rfl⟩, trivial, jn_none rfl⟩, jn_none rfl⟩, rfl, rfl, rf_some rfl (ROParse_3_ok)⟩, jn_none rfl⟩, ⟨⟨trivial, ⟨⟨trivial, trivial, jn_none rfl⟩, trivial, jn_none rfl⟩, jn_none rfl⟩, ⟨trivial, trivial, jn_none rfl⟩, jn_none rfl⟩, jn_none rfl⟩, jn_none rfl⟩, jn_none rfl⟩
noncomputable def gOParse (b : List Int) : Option Out :=
 cond (bytesOk b) (
 cond (List.all (oidRows (oidNums b)) okONums) (
 shut (rlOParse_3
 (fun (y1 : Nat) (y2 : List Int) =>
  some (.ret [.cl (.sli .u32 []), .cl (.int .i64 5)] []))
 (fun (y3 : Nat) (y4 : List Int) =>
  let r5 : Bool := oidFit y4
  cond (!r5) (
   some (.ret [.cl (.sli .u32 []), .cl (.int .i64 5)] []))
  (
   some (.ret [.cl (.sli .u32 y4), .cl (.int .i64 0)] [])))) (oidRows (oidNums b)) 0 []) none) none
theorem gOParse_eq (b : List Int) : bodyK Tryd.prog (EOParse) 40 false Tryd.f36 [.cl (.sli .u8 b)] [] = gOParse b := by kernel_rfl
end Go.Proofs.YtfkpjbbkdkcdcabDoorA

namespace Go.Proofs.YtfkpjbbkdkcdcabDoorA
noncomputable def lpR1Same_4s (again : (List Int) -> (List Int) -> Int -> Option Out) (k0 : (List Int) -> (List Int) -> Int -> Int -> (List Int) -> Int -> (List Int) -> Int -> (List Int) -> Nat -> Int -> (List Int) -> Int -> (List Int) -> Nat -> Int -> Option Out) (k1 : (List Int) -> (List Int) -> Int -> Int -> (List Int) -> Int -> Option Out) (v1 : List Int) (v2 : List Int) (v3 : Int) : Option Out :=
 cond (decide (v3 < ((v1.length : Nat) : Int))) (
  cond (decide ((0 : Int) <= v3)) (
  cond (decide (v3 < ((v1.length : Nat) : Int))) (
  Option.bind (v1[(Int.toNat v3)]?) fun (e1 : Int) =>
  cond (decide ((0 : Int) <= v3)) (
  cond (decide (v3 < ((v2.length : Nat) : Int))) (
  Option.bind (v2[(Int.toNat v3)]?) fun (e2 : Int) =>
  cond (!decide (e1 = e2)) (
   k0 v1 v2 v3 v3 v1 ((v1.length : Nat) : Int) v1 v3 v1 (Int.toNat v3) e1 v2 v3 v2 (Int.toNat v3) e2)
  (
   let x3 : Int := IntKind.i64.wrap (v3 + 1)
   again v1 v2 x3)) none) none) none) none)
 (
  k1 v1 v2 v3 v3 v1 ((v1.length : Nat) : Int))
noncomputable def lpR1Same_4 (k0 : (List Int) -> (List Int) -> Int -> Int -> (List Int) -> Int -> (List Int) -> Int -> (List Int) -> Nat -> Int -> (List Int) -> Int -> (List Int) -> Nat -> Int -> Option Out) (k1 : (List Int) -> (List Int) -> Int -> Int -> (List Int) -> Int -> Option Out) : Nat -> (List Int) -> (List Int) -> Int -> Option Out
 | 0 => fun _ _ _ => none
 | n + 1 => lpR1Same_4s (lpR1Same_4 k0 k1 n) k0 k1
noncomputable def LR1Same_4 : St -> (Ex -> St -> Option Out) -> Option Out := fun σ k => match σ with
 | ⟨[(q1, .cl (.sli .u8 v1)), (q2, .cl (.sli .u8 v2)), (q3, .cl (.int .i64 v3))], []⟩ => cond (Nat.beq q1 0 && Nat.beq q2 1 && Nat.beq q3 5) (shut (lpR1Same_4 (fun y1 y2 y3 y4 y5 y6 y7 y8 y9 y10 y11 y12 y13 y14 y15 y16 => k .ret ⟨[(0, .cl (.sli .u8 y1)), (1, .cl (.sli .u8 y2)), (4, .cl (.bool false)), (5, .cl (.int .i64 y3)), (11, .cl (.int .i64 y4)), (12, .cl (.sli .u8 y5)), (13, .cl (.int .i64 y6)), (14, .cl (.bool true)), (17, .cl (.sli .u8 y7)), (18, .cl (.int .i64 y8)), (19, .cl (.vp (.sli .u8 y9) y10 0)), (20, .cl (.int .u8 y11)), (21, .cl (.sli .u8 y12)), (22, .cl (.int .i64 y13)), (23, .cl (.vp (.sli .u8 y14) y15 0)), (24, .cl (.int .u8 y16)), (25, .cl (.bool true))], []⟩) (fun y1 y2 y3 y4 y5 y6 => k (.exit 0) ⟨[(0, .cl (.sli .u8 y1)), (1, .cl (.sli .u8 y2)), (5, .cl (.int .i64 y3)), (11, .cl (.int .i64 y4)), (12, .cl (.sli .u8 y5)), (13, .cl (.int .i64 y6)), (14, .cl (.bool false))], []⟩) FUEL) v1 v2 v3) none
 | _ => none
noncomputable def ER1Same : Env := {
 orc := fun _ => fun _ _ => Tree.fail
 pre := fun _ => fun _ _ => true
 byref := fun _ => []
 keep := fun _ => false
 live := fun r => cond (Nat.beq r 4) ([0, 1, 5]) ([])
 ren := fun _ => []
 glob := glVal
 nt := 26
 lp := fun r => cond (Nat.beq r 4) (some (LR1Same_4)) (none)
}
noncomputable def blpR1Same_4 : Code := (Cd.fst (Cd.fst (Cd.snd (Cd.fst (Cd.snd (Cd.snd (Tryd.f12.body.getD .skip)))))))
theorem lpR1Same_4_step (k : Ex -> St -> Option Out) (n : Nat) (v1 : List Int) (v2 : List Int) (v3 : Int) : iterK (n + 1) (codeK Tryd.prog (ER1Same) 40 blpR1Same_4) (head (ER1Same) 4) ⟨[(0, .cl (.sli .u8 v1)), (1, .cl (.sli .u8 v2)), (5, .cl (.int .i64 v3))], []⟩ k = lpR1Same_4s (fun v1 v2 v3 => iterK n (codeK Tryd.prog (ER1Same) 40 blpR1Same_4) (head (ER1Same) 4) ⟨[(0, .cl (.sli .u8 v1)), (1, .cl (.sli .u8 v2)), (5, .cl (.int .i64 v3))], []⟩ k) (fun y1 y2 y3 y4 y5 y6 y7 y8 y9 y10 y11 y12 y13 y14 y15 y16 => k .ret ⟨[(0, .cl (.sli .u8 y1)), (1, .cl (.sli .u8 y2)), (4, .cl (.bool false)), (5, .cl (.int .i64 y3)), (11, .cl (.int .i64 y4)), (12, .cl (.sli .u8 y5)), (13, .cl (.int .i64 y6)), (14, .cl (.bool true)), (17, .cl (.sli .u8 y7)), (18, .cl (.int .i64 y8)), (19, .cl (.vp (.sli .u8 y9) y10 0)), (20, .cl (.int .u8 y11)), (21, .cl (.sli .u8 y12)), (22, .cl (.int .i64 y13)), (23, .cl (.vp (.sli .u8 y14) y15 0)), (24, .cl (.int .u8 y16)), (25, .cl (.bool true))], []⟩) (fun y1 y2 y3 y4 y5 y6 => k (.exit 0) ⟨[(0, .cl (.sli .u8 y1)), (1, .cl (.sli .u8 y2)), (5, .cl (.int .i64 y3)), (11, .cl (.int .i64 y4)), (12, .cl (.sli .u8 y5)), (13, .cl (.int .i64 y6)), (14, .cl (.bool false))], []⟩) v1 v2 v3 := by kernel_rfl
theorem lpR1Same_4_eq (k : Ex -> St -> Option Out) : ∀ (n : Nat), ∀ (v1 : List Int) (v2 : List Int) (v3 : Int), iterK n (codeK Tryd.prog (ER1Same) 40 blpR1Same_4) (head (ER1Same) 4) ⟨[(0, .cl (.sli .u8 v1)), (1, .cl (.sli .u8 v2)), (5, .cl (.int .i64 v3))], []⟩ k = lpR1Same_4 (fun y1 y2 y3 y4 y5 y6 y7 y8 y9 y10 y11 y12 y13 y14 y15 y16 => k .ret ⟨[(0, .cl (.sli .u8 y1)), (1, .cl (.sli .u8 y2)), (4, .cl (.bool false)), (5, .cl (.int .i64 y3)), (11, .cl (.int .i64 y4)), (12, .cl (.sli .u8 y5)), (13, .cl (.int .i64 y6)), (14, .cl (.bool true)), (17, .cl (.sli .u8 y7)), (18, .cl (.int .i64 y8)), (19, .cl (.vp (.sli .u8 y9) y10 0)), (20, .cl (.int .u8 y11)), (21, .cl (.sli .u8 y12)), (22, .cl (.int .i64 y13)), (23, .cl (.vp (.sli .u8 y14) y15 0)), (24, .cl (.int .u8 y16)), (25, .cl (.bool true))], []⟩) (fun y1 y2 y3 y4 y5 y6 => k (.exit 0) ⟨[(0, .cl (.sli .u8 y1)), (1, .cl (.sli .u8 y2)), (5, .cl (.int .i64 y3)), (11, .cl (.int .i64 y4)), (12, .cl (.sli .u8 y5)), (13, .cl (.int .i64 y6)), (14, .cl (.bool false))], []⟩) n v1 v2 v3
 | 0 => by intros; rfl
 | n + 1 => by
  intros
  rw [lpR1Same_4_step]
  have ih := lpR1Same_4_eq k n
  simp only [lpR1Same_4, ih]
theorem LR1Same_4_ok : ∀ (σ : St) (k : Ex -> St -> Option Out) (r : Out), LR1Same_4 σ k = some r -> ∃ n, iterK n (codeK Tryd.prog (ER1Same) 40 blpR1Same_4) (head (ER1Same) 4) σ k = some r := by
 intro σ k r h
 unfold LR1Same_4 at h
 split at h
 ·replace h := cond_some h
  obtain ⟨hc, h⟩ := h
  simp only [Bool.and_eq_true, beq_prop, decide_eq_true_eq, Bool.not_eq_true'] at hc
  obtain ⟨⟨rfl, rfl⟩, rfl⟩ := hc
  rw [shut_eq] at h
  exact ⟨FUEL, (lpR1Same_4_eq k FUEL _ _ _ ).trans h⟩
 ·cases h
theorem loopsR1Same : ∀ c, Tryd.f12.body = some c -> LoopsOk Tryd.prog (ER1Same) 40 c := by
 intro c hc
 cases hc
 exact ⟨trivial, ⟨⟨trivial, ⟨⟨trivial, trivial, jn_none rfl⟩, trivial, jn_none rfl⟩, jn_none rfl⟩, ⟨⟨trivial, ⟨⟨⟨trivial, ⟨trivial, trivial, jn_none rfl⟩, jn_none rfl⟩, ⟨⟨trivial, ⟨⟨trivial, trivial, jn_none rfl⟩, trivial, jn_none rfl⟩, jn_none rfl⟩, trivial, jn_none rfl⟩, jn_none rfl⟩, lp_some rfl (LR1Same_4_ok)⟩, jn_none rfl⟩, ⟨trivial, trivial, jn_none rfl⟩, jn_none rfl⟩, jn_none rfl⟩, jn_none rfl⟩
noncomputable def gR1Same (a : List Int) (b : List Int) : Option Out :=
 cond (!decide (((a.length : Nat) : Int) = ((b.length : Nat) : Int))) (
  some (.ret [.cl (.bool false)] []))
 (
  shut (lpR1Same_4
  (fun (y1 : List Int) (y2 : List Int) (y3 : Int) (y4 : Int) (y5 : List Int) (y6 : Int) (y7 : List Int) (y8 : Int) (y9 : List Int) (y10 : Nat) (y11 : Int) (y12 : List Int) (y13 : Int) (y14 : List Int) (y15 : Nat) (y16 : Int) =>
   some (.ret [.cl (.bool false)] []))
  (fun (y17 : List Int) (y18 : List Int) (y19 : Int) (y20 : Int) (y21 : List Int) (y22 : Int) =>
   some (.ret [.cl (.bool true)] []))
  FUEL) a b 0)
theorem gR1Same_eq (a : List Int) (b : List Int) : bodyK Tryd.prog (ER1Same) 40 false Tryd.f12 [.cl (.sli .u8 a), .cl (.sli .u8 b)] [] = gR1Same a b := by kernel_rfl
end Go.Proofs.YtfkpjbbkdkcdcabDoorA

namespace Go.Proofs.YtfkpjbbkdkcdcabDoorA
noncomputable def ESClone : Env := {
 orc := fun _ => fun _ _ => Tree.fail
 pre := fun _ => fun _ _ => true
 byref := fun _ => []
 keep := fun _ => false
 live := fun _ => []
 ren := fun _ => []
 glob := glVal
 nt := 8
 lp := fun _ => none
}
theorem loopsSClone : ∀ c, Tryd.f28.body = some c -> LoopsOk Tryd.prog (ESClone) 40 c := by
 intro c hc
 cases hc
 exact ⟨trivial, ⟨⟨trivial, ⟨⟨trivial, trivial, jn_none rfl⟩, trivial, jn_none rfl⟩, jn_none rfl⟩, ⟨trivial, trivial, jn_none rfl⟩, jn_none rfl⟩, jn_none rfl⟩
noncomputable def gSClone (b : List Int) : Option Out :=
 cond (Nat.beq b.length 0) (
  bothK (
   some (.ret [.cl (.sli .u8 [])] []))
  (
   let l1 : List Int := [] ++ b
   cond (Nat.ble (l1.length * 1) LIMN) (
   cond (Nat.ble l1.length LIMN) (
   some (.ret [.cl (.sli .u8 l1)] [])) none) none))
 (
  let l2 : List Int := [] ++ b
  cond (Nat.ble (l2.length * 1) LIMN) (
  cond (Nat.ble l2.length LIMN) (
  some (.ret [.cl (.sli .u8 l2)] [])) none) none)
theorem gSClone_eq (b : List Int) : bodyK Tryd.prog (ESClone) 40 false Tryd.f28 [.cl (.sli .u8 b)] [] = gSClone b := by kernel_rfl
end Go.Proofs.YtfkpjbbkdkcdcabDoorA

namespace Go.Proofs.YtfkpjbbkdkcdcabDoorA
noncomputable def EUWord : Env := {
 orc := fun _ => fun _ _ => Tree.fail
 pre := fun _ => fun _ _ => true
 byref := fun _ => []
 keep := fun _ => false
 live := fun _ => []
 ren := fun _ => []
 glob := glVal
 nt := 71
 lp := fun _ => none
}
theorem loopsUWord : ∀ c, Tryd.f80.body = some c -> LoopsOk Tryd.prog (EUWord) 40 c := by
 intro c hc
 cases hc
 exact ⟨trivial, ⟨⟨⟨trivial, trivial, jn_none rfl⟩, trivial, jn_none rfl⟩, ⟨trivial, trivial, jn_none rfl⟩, jn_none rfl⟩, jn_none rfl⟩
noncomputable def gUWord (b : List Int) : Option Out :=
 cond (decide ((0 : Int) < ((b.length : Nat) : Int))) (
 Option.bind (b[0]?) fun (e1 : Int) =>
 let x2 : Int := IntKind.u64.wrap e1
 cond (decide ((1 : Int) < ((b.length : Nat) : Int))) (
 Option.bind (b[1]?) fun (e3 : Int) =>
 let x4 : Int := IntKind.u64.wrap e3
 let x5 : Int := IntKind.u64.wrap (x4 * 2 ^ 8)
 let x6 : Int := IntKind.u64.wrap ((BitVec.ofInt 64 x2 ||| BitVec.ofInt 64 x5).toNat)
 cond (decide ((2 : Int) < ((b.length : Nat) : Int))) (
 Option.bind (b[2]?) fun (e7 : Int) =>
 let x8 : Int := IntKind.u64.wrap e7
 let x9 : Int := IntKind.u64.wrap (x8 * 2 ^ 16)
 let x10 : Int := IntKind.u64.wrap ((BitVec.ofInt 64 x6 ||| BitVec.ofInt 64 x9).toNat)
 cond (decide ((3 : Int) < ((b.length : Nat) : Int))) (
 Option.bind (b[3]?) fun (e11 : Int) =>
 let x12 : Int := IntKind.u64.wrap e11
 let x13 : Int := IntKind.u64.wrap (x12 * 2 ^ 24)
 let x14 : Int := IntKind.u64.wrap ((BitVec.ofInt 64 x10 ||| BitVec.ofInt 64 x13).toNat)
 cond (decide ((4 : Int) < ((b.length : Nat) : Int))) (
 Option.bind (b[4]?) fun (e15 : Int) =>
 let x16 : Int := IntKind.u64.wrap e15
 let x17 : Int := IntKind.u64.wrap (x16 * 2 ^ 32)
 let x18 : Int := IntKind.u64.wrap ((BitVec.ofInt 64 x14 ||| BitVec.ofInt 64 x17).toNat)
 cond (decide ((5 : Int) < ((b.length : Nat) : Int))) (
 Option.bind (b[5]?) fun (e19 : Int) =>
 let x20 : Int := IntKind.u64.wrap e19
 let x21 : Int := IntKind.u64.wrap (x20 * 2 ^ 40)
 let x22 : Int := IntKind.u64.wrap ((BitVec.ofInt 64 x18 ||| BitVec.ofInt 64 x21).toNat)
 cond (decide ((6 : Int) < ((b.length : Nat) : Int))) (
 Option.bind (b[6]?) fun (e23 : Int) =>
 let x24 : Int := IntKind.u64.wrap e23
 let x25 : Int := IntKind.u64.wrap (x24 * 2 ^ 48)
 let x26 : Int := IntKind.u64.wrap ((BitVec.ofInt 64 x22 ||| BitVec.ofInt 64 x25).toNat)
 cond (decide ((7 : Int) < ((b.length : Nat) : Int))) (
 Option.bind (b[7]?) fun (e27 : Int) =>
 let x28 : Int := IntKind.u64.wrap e27
 let x29 : Int := IntKind.u64.wrap (x28 * 2 ^ 56)
 let x30 : Int := IntKind.u64.wrap ((BitVec.ofInt 64 x26 ||| BitVec.ofInt 64 x29).toNat)
 some (.ret [.cl (.int .u64 x30)] [])) none) none) none) none) none) none) none) none
theorem gUWord_eq (b : List Int) : bodyK Tryd.prog (EUWord) 40 false Tryd.f80 [.cl (.sli .u8 b)] [] = gUWord b := by kernel_rfl
end Go.Proofs.YtfkpjbbkdkcdcabDoorA

namespace Go.Proofs.YtfkpjbbkdkcdcabDoorA
noncomputable def lpUValid_10s (again : (List Int) -> Option Out) (k0 : (List Int) -> Option Out) (v1 : List Int) : Option Out :=
 cond (decide ((32 : Int) < ((v1.length : Nat) : Int))) (
  cond (bytesOk v1 && decide (8 <= v1.length)) (
  let r13 : Int := u8Word v1
  cond (decide ((8 : Int) <= ((v1.length : Nat) : Int))) (
  let l14 : List Int := List.drop 8 v1
  cond (bytesOk l14 && decide (8 <= l14.length)) (
  let r15 : Int := u8Word l14
  let x16 : Int := IntKind.u64.wrap ((BitVec.ofInt 64 r13 ||| BitVec.ofInt 64 r15).toNat)
  cond (decide ((16 : Int) <= ((v1.length : Nat) : Int))) (
  let l17 : List Int := List.drop 16 v1
  cond (bytesOk l17 && decide (8 <= l17.length)) (
  let r18 : Int := u8Word l17
  cond (decide ((24 : Int) <= ((v1.length : Nat) : Int))) (
  let l19 : List Int := List.drop 24 v1
  cond (bytesOk l19 && decide (8 <= l19.length)) (
  let r20 : Int := u8Word l19
  let x21 : Int := IntKind.u64.wrap ((BitVec.ofInt 64 r18 ||| BitVec.ofInt 64 r20).toNat)
  let x22 : Int := IntKind.u64.wrap ((BitVec.ofInt 64 x16 ||| BitVec.ofInt 64 x21).toNat)
  let x23 : Int := IntKind.u64.wrap ((BitVec.ofInt 64 x22 &&& BitVec.ofInt 64 9259542123273814144).toNat)
  cond (decide (x23 = 0)) (
   cond (decide ((32 : Int) <= ((v1.length : Nat) : Int))) (
   let l24 : List Int := List.drop 32 v1
   again l24) none)
  (
   k0 v1)) none) none) none) none) none) none) none)
 (
  k0 v1)
noncomputable def lpUValid_10 (k0 : (List Int) -> Option Out) : Nat -> (List Int) -> Option Out := iterF (fun a => lpUValid_10s a k0) (fun _ => none)
noncomputable def lpUValid_2s (again : (List Int) -> Option Out) (k0 : Option Out) (k1 : Option Out) (v1 : List Int) : Option Out :=
 cond (decide ((0 : Int) < ((v1.length : Nat) : Int))) (
  cond (decide ((0 : Int) < ((v1.length : Nat) : Int))) (
  Option.bind (v1[0]?) fun (e2 : Int) =>
  cond (decide (e2 < 128)) (
   cond (decide ((1 : Int) <= ((v1.length : Nat) : Int))) (
   let l3 : List Int := List.drop 1 v1
   cond (decide ((8 : Int) < ((l3.length : Nat) : Int))) (
    cond (bytesOk l3 && decide (8 <= l3.length)) (
    let r4 : Int := u8Word l3
    let x5 : Int := IntKind.u64.wrap ((BitVec.ofInt 64 r4 &&& BitVec.ofInt 64 9259542123273814144).toNat)
    cond (decide (x5 = 0)) (
     cond (decide ((8 : Int) <= ((l3.length : Nat) : Int))) (
     let l6 : List Int := List.drop 8 l3
     cond (decide ((16 : Int) < ((l6.length : Nat) : Int))) (
      cond (bytesOk l6 && decide (8 <= l6.length)) (
      let r7 : Int := u8Word l6
      cond (decide ((8 : Int) <= ((l6.length : Nat) : Int))) (
      let l8 : List Int := List.drop 8 l6
      cond (bytesOk l8 && decide (8 <= l8.length)) (
      let r9 : Int := u8Word l8
      let x10 : Int := IntKind.u64.wrap ((BitVec.ofInt 64 r7 ||| BitVec.ofInt 64 r9).toNat)
      let x11 : Int := IntKind.u64.wrap ((BitVec.ofInt 64 x10 &&& BitVec.ofInt 64 9259542123273814144).toNat)
      cond (decide (x11 = 0)) (
       cond (decide ((16 : Int) <= ((l6.length : Nat) : Int))) (
       let l12 : List Int := List.drop 16 l6
       shut (lpUValid_10
       (fun (y13 : List Int) =>
        again y13)
       FUEL) l12) none)
      (
       again l6)) none) none) none)
     (
      again l6)) none)
    (
     again l3)) none)
   (
    again l3)) none)
  (
   cond (decide ((0 : Int) <= e2)) (
   cond (decide (e2 < 256)) (
   Option.bind (u8First[(Int.toNat e2)]?) fun (e14 : Int) =>
   let x15 : Int := IntKind.u8.wrap ((BitVec.ofInt 8 e14 &&& BitVec.ofInt 8 7).toNat)
   let x16 : Int := IntKind.i64.wrap x15
   let x17 : Int := Int.fdiv e14 (2 ^ 4)
   cond (decide ((0 : Int) <= x17)) (
   cond (decide (x17 < 16)) (
   Option.bind (u8Accept[(Int.toNat x17)]?) fun (e18 : CV) =>
   let e19 : CV := (cell1 e18).headD .nili
   let e20 : CV := (cell1 e18).tail.headD .nili
   cond (okInt .u8 e19 && (okInt .u8 e20 && true)) (
   let i21 : Int := cvInt e19
   let i22 : Int := cvInt e20
   cond (decide (x16 = 2)) (
    cond (decide (((v1.length : Nat) : Int) < 2)) (
     k0)
    (
     cond (decide ((1 : Int) < ((v1.length : Nat) : Int))) (
     Option.bind (v1[1]?) fun (e23 : Int) =>
     cond (decide (e23 < i21)) (
      k0)
     (
      cond (decide ((1 : Int) < ((v1.length : Nat) : Int))) (
      Option.bind (v1[1]?) fun (e24 : Int) =>
      cond (decide (i22 < e24)) (
       k0)
      (
       cond (decide ((2 : Int) <= ((v1.length : Nat) : Int))) (
       let l25 : List Int := List.drop 2 v1
       again l25) none)) none)) none))
   (
    cond (decide (x16 = 3)) (
     cond (decide (((v1.length : Nat) : Int) < 3)) (
      k0)
     (
      cond (decide ((1 : Int) < ((v1.length : Nat) : Int))) (
      Option.bind (v1[1]?) fun (e26 : Int) =>
      cond (decide (e26 < i21)) (
       k0)
      (
       cond (decide ((1 : Int) < ((v1.length : Nat) : Int))) (
       Option.bind (v1[1]?) fun (e27 : Int) =>
       cond (decide (i22 < e27)) (
        k0)
       (
        cond (decide ((2 : Int) < ((v1.length : Nat) : Int))) (
        Option.bind (v1[2]?) fun (e28 : Int) =>
        cond (decide (e28 < 128)) (
         k0)
        (
         cond (decide ((2 : Int) < ((v1.length : Nat) : Int))) (
         Option.bind (v1[2]?) fun (e29 : Int) =>
         cond (decide ((191 : Int) < e29)) (
          k0)
         (
          cond (decide ((3 : Int) <= ((v1.length : Nat) : Int))) (
          let l30 : List Int := List.drop 3 v1
          again l30) none)) none)) none)) none)) none))
    (
     cond (decide (x16 = 4)) (
      cond (decide (((v1.length : Nat) : Int) < 4)) (
       k0)
      (
       cond (decide ((1 : Int) < ((v1.length : Nat) : Int))) (
       Option.bind (v1[1]?) fun (e31 : Int) =>
       cond (decide (e31 < i21)) (
        k0)
       (
        cond (decide ((1 : Int) < ((v1.length : Nat) : Int))) (
        Option.bind (v1[1]?) fun (e32 : Int) =>
        cond (decide (i22 < e32)) (
         k0)
        (
         cond (decide ((2 : Int) < ((v1.length : Nat) : Int))) (
         Option.bind (v1[2]?) fun (e33 : Int) =>
         cond (decide (e33 < 128)) (
          k0)
         (
          cond (decide ((2 : Int) < ((v1.length : Nat) : Int))) (
          Option.bind (v1[2]?) fun (e34 : Int) =>
          cond (decide ((191 : Int) < e34)) (
           k0)
          (
           cond (decide ((3 : Int) < ((v1.length : Nat) : Int))) (
           Option.bind (v1[3]?) fun (e35 : Int) =>
           cond (decide (e35 < 128)) (
            k0)
           (
            cond (decide ((3 : Int) < ((v1.length : Nat) : Int))) (
            Option.bind (v1[3]?) fun (e36 : Int) =>
            cond (decide ((191 : Int) < e36)) (
             k0)
            (
             cond (decide ((4 : Int) <= ((v1.length : Nat) : Int))) (
             let l37 : List Int := List.drop 4 v1
             again l37) none)) none)) none)) none)) none)) none)) none))
     (
      k0)))) none) none) none) none) none)) none)
 (
  k1)
noncomputable def lpUValid_2 (k0 : Option Out) (k1 : Option Out) : Nat -> (List Int) -> Option Out := iterF (fun a => lpUValid_2s a k0 k1) (fun _ => none)
noncomputable def LUValid_10 : St -> (Ex -> St -> Option Out) -> Option Out := fun σ k => match σ with
 | ⟨[(q1, .cl (.sli .u8 v1))], []⟩ => cond (Nat.beq q1 0) (shut (lpUValid_10 (fun y1 => k (.exit 2) ⟨[(0, .cl (.sli .u8 y1))], []⟩) FUEL) v1) none
 | _ => none
noncomputable def LUValid_2 : St -> (Ex -> St -> Option Out) -> Option Out := fun σ k => match σ with
 | ⟨[(q1, .cl (.sli .u8 v1))], []⟩ => cond (Nat.beq q1 0) (shut (lpUValid_2 (k .ret ⟨[(2, .cl (.bool false))], []⟩) (k (.exit 0) ⟨[], []⟩) FUEL) v1) none
 | _ => none
noncomputable def EUValid : Env := {
 orc := fun g => cond (Nat.beq g 80) (SUWord) (fun _ _ => Tree.fail)
 pre := fun g => cond (Nat.beq g 80) (preUWord) (fun _ _ => true)
 byref := fun _ => []
 keep := fun _ => false
 live := fun r => cond (Nat.beq r 2) ([0]) (cond (Nat.beq r 10) ([0]) ([]))
 ren := fun _ => []
 glob := glVal
 nt := 188
 lp := fun r => cond (Nat.beq r 2) (some (LUValid_2)) (cond (Nat.beq r 10) (some (LUValid_10)) (none))
 xl := fun r => cond (Nat.beq r 0) (some [2]) (cond (Nat.beq r 1) (some []) (cond (Nat.beq r 2) (some [0]) (cond (Nat.beq r 3) (some [0]) (none))))
}
noncomputable def blpUValid_10 : Code := (Cd.fst (Cd.fst (Cd.snd (Cd.fst (Cd.snd (Cd.snd (Cd.fst (Cd.snd (Cd.fst (Cd.snd (Cd.fst (Cd.snd (Cd.fst (Cd.snd (Cd.fst (Cd.snd (Cd.fst (Cd.fst (Cd.fst (Cd.snd (Cd.snd (Tryd.f75.body.getD .skip))))))))))))))))))))))
noncomputable def blpUValid_2 : Code := (Cd.fst (Cd.fst (Cd.fst (Cd.snd (Cd.snd (Tryd.f75.body.getD .skip))))))
theorem LUValid_10_ok : LpOk Tryd.prog (EUValid) 40 blpUValid_10 10 LUValid_10 := by
 intro σ k r h
 unfold LUValid_10 at h
 split at h
 ·replace h := cond_some h
  obtain ⟨hc, h⟩ := h
  simp only [Bool.and_eq_true, beq_prop, decide_eq_true_eq, Bool.not_eq_true'] at hc
  obtain rfl := hc
  rw [shut_eq] at h
  exact ⟨FUEL, iter_ok (F := fun n v1 => iterK n (codeK Tryd.prog (EUValid) 40 blpUValid_10) (head (EUValid) 10) ⟨[(0, .cl (.sli .u8 v1))], []⟩ k) (Q := fun f => f _ = some r) rfl (fun n => by kernel_rfl) h⟩
 ·cases h
theorem LUValid_2_ok : LpOk Tryd.prog (EUValid) 40 blpUValid_2 2 LUValid_2 := by
 intro σ k r h
 unfold LUValid_2 at h
 split at h
 ·replace h := cond_some h
  obtain ⟨hc, h⟩ := h
  simp only [Bool.and_eq_true, beq_prop, decide_eq_true_eq, Bool.not_eq_true'] at hc
  obtain rfl := hc
  rw [shut_eq] at h
  exact ⟨FUEL, iter_ok (F := fun n v1 => iterK n (codeK Tryd.prog (EUValid) 40 blpUValid_2) (head (EUValid) 2) ⟨[(0, .cl (.sli .u8 v1))], []⟩ k) (Q := fun f => f _ = some r) rfl (fun n => by kernel_rfl) h⟩
 ·cases h
theorem loopsUValid : ∀ c, Tryd.f75.body = some c -> LoopsOk Tryd.prog (EUValid) 40 c := by
 intro c hc
 cases hc
 exact ⟨trivial, ⟨trivial, ⟨⟨⟨⟨trivial, ⟨trivial, trivial, jn_none rfl⟩, jn_none rfl⟩, ⟨trivial, ⟨⟨trivial, ⟨⟨trivial, ⟨⟨trivial, ⟨⟨trivial, ⟨trivial, ⟨⟨trivial, ⟨⟨⟨trivial, ⟨trivial, trivial, jn_none rfl⟩, jn_none rfl⟩, trivial, jn_none rfl⟩, lp_some rfl (LUValid_10_ok)⟩, jn_none rfl⟩, trivial, jn_none rfl⟩, jn_none rfl⟩, jn_none rfl⟩, trivial, jn_none rfl⟩, jn_none rfl⟩, trivial, jn_none rfl⟩, jn_none rfl⟩, trivial, jn_none rfl⟩, jn_none rfl⟩, ⟨trivial, ⟨trivial, ⟨trivial, ⟨trivial, ⟨trivial, ⟨⟨⟨trivial, ⟨⟨trivial, trivial, jn_none rfl⟩, trivial, jn_none rfl⟩, jn_none rfl⟩, trivial, jn_none rfl⟩, ⟨trivial, ⟨⟨⟨trivial, ⟨⟨trivial, trivial, jn_none rfl⟩, trivial, jn_none rfl⟩, jn_none rfl⟩, trivial, jn_none rfl⟩, ⟨trivial, ⟨⟨⟨trivial, ⟨⟨trivial, trivial, jn_none rfl⟩, trivial, jn_none rfl⟩, jn_none rfl⟩, trivial, jn_none rfl⟩, ⟨trivial, trivial, jn_none rfl⟩, jn_none rfl⟩, jn_none rfl⟩, jn_none rfl⟩, jn_none rfl⟩, jn_none rfl⟩, jn_none rfl⟩, jn_none rfl⟩, jn_none rfl⟩, jn_none rfl⟩, jn_none rfl⟩, jn_none rfl⟩, jn_none rfl⟩, jn_none rfl⟩, lp_some rfl (LUValid_2_ok)⟩, ⟨trivial, trivial, jn_none rfl⟩, jn_none rfl⟩, jn_none rfl⟩, jn_none rfl⟩
noncomputable def gUValid (b : List Int) : Option Out :=
 cond (decide ((0 : Int) <= ((b.length : Nat) : Int)) && decide (((b.length : Nat) : Int) <= ((b.length : Nat) : Int))) (
 cond (decide (((b.length : Nat) : Int) <= ((b.length : Nat) : Int))) (
 let l1 : List Int := List.take (Int.toNat ((b.length : Nat) : Int)) b
 shut (lpUValid_2
 (
  some (.ret [.cl (.bool false)] []))
 (
  some (.ret [.cl (.bool true)] []))
 FUEL) l1) none) none
theorem gUValid_eq (b : List Int) : bodyK Tryd.prog (EUValid) 40 false Tryd.f75 [.cl (.sli .u8 b)] [] = gUValid b := by kernel_rfl
end Go.Proofs.YtfkpjbbkdkcdcabDoorA

namespace Go.Proofs.YtfkpjbbkdkcdcabDoorA
noncomputable def lpRSame_4s (rk : Nat) (again : Int -> Int -> (List Int) -> (List CV) -> Int -> (List Int) -> (List CV) -> Option Out) (k0 : Int -> Int -> (List CV) -> Int -> (List CV) -> Int -> (List CV) -> Nat -> Int -> (List Int) -> (List CV) -> (List CV) -> Int -> (List CV) -> Nat -> Int -> (List Int) -> (List CV) -> Bool -> Int -> (List Int) -> (List CV) -> Int -> (List Int) -> (List CV) -> Option Out) (k1 : Int -> Int -> (List CV) -> Int -> Int -> (List Int) -> (List CV) -> Int -> (List Int) -> (List CV) -> Option Out) (v1 : Int) (v2 : Int) (v3 : List Int) (v4 : List CV) (v5 : Int) (v6 : List Int) (v7 : List CV) : Option Out :=
 cond (decide (v1 < ((v4.length : Nat) : Int))) (
  cond (decide ((0 : Int) <= v1)) (
  cond (decide (v1 < ((v4.length : Nat) : Int))) (
  Option.bind (v4[(Int.toNat v1)]?) fun (e2 : CV) =>
  let e3 : CV := (cell1 e2).headD .nili
  let e4 : CV := (cell1 e2).tail.headD .nili
  let e5 : CV := (cell1 e2).tail.tail.headD .nili
  cond (okInt .i64 e3 && (okSli .u8 e4 && (okSlg 3 e5 && true))) (
  let i6 : Int := cvInt e3
  let l7 : List Int := cvSli e4
  let l8 : List CV := cvSlg e5
  cond (decide ((0 : Int) <= v1)) (
  cond (decide (v1 < ((v7.length : Nat) : Int))) (
  Option.bind (v7[(Int.toNat v1)]?) fun (e9 : CV) =>
  let e10 : CV := (cell1 e9).headD .nili
  let e11 : CV := (cell1 e9).tail.headD .nili
  let e12 : CV := (cell1 e9).tail.tail.headD .nili
  cond (okInt .i64 e10 && (okSli .u8 e11 && (okSlg 3 e12 && true))) (
  let i13 : Int := cvInt e10
  let l14 : List Int := cvSli e11
  let l15 : List CV := cvSlg e12
  cond (isNr rk [.int .i64 i6, .sli .u8 l7, .slg 3 l8] && isN [.int .i64 i13, .sli .u8 l14, .slg 3 l15]) (
  let r16 : Bool := ndSame [.int .i64 i6, .sli .u8 l7, .slg 3 l8] [.int .i64 i13, .sli .u8 l14, .slg 3 l15]
  cond (!r16) (
   k0 v1 v1 v4 ((v4.length : Nat) : Int) v4 v1 v4 (Int.toNat v1) i6 l7 l8 v7 v1 v7 (Int.toNat v1) i13 l14 l15 r16 v2 v3 v4 v5 v6 v7)
  (
   let x17 : Int := IntKind.i64.wrap (v1 + 1)
   again x17 v2 v3 v4 v5 v6 v7)) none) none) none) none) none) none) none)
 (
  k1 v1 v1 v4 ((v4.length : Nat) : Int) v2 v3 v4 v5 v6 v7)
noncomputable def lpRSame_4 (rk : Nat) (k0 : Int -> Int -> (List CV) -> Int -> (List CV) -> Int -> (List CV) -> Nat -> Int -> (List Int) -> (List CV) -> (List CV) -> Int -> (List CV) -> Nat -> Int -> (List Int) -> (List CV) -> Bool -> Int -> (List Int) -> (List CV) -> Int -> (List Int) -> (List CV) -> Option Out) (k1 : Int -> Int -> (List CV) -> Int -> Int -> (List Int) -> (List CV) -> Int -> (List Int) -> (List CV) -> Option Out) : Nat -> Int -> Int -> (List Int) -> (List CV) -> Int -> (List Int) -> (List CV) -> Option Out
 | 0 => fun _ _ _ _ _ _ _ => none
 | n + 1 => lpRSame_4s rk (lpRSame_4 rk k0 k1 n) k0 k1
noncomputable def LRSame_4 (rk : Nat) : St -> (Ex -> St -> Option Out) -> Option Out := fun σ k => match σ with
 | ⟨[(q1, .ptr q2 q3 q4), (q5, .ptr q6 q7 q8), (q9, .cl (.int .i64 v1))], [(q10, ⟨.var [.cl (.int .i64 v2), .cl (.sli .u8 v3), .cl (.slg q11 v4)], false⟩), (q12, ⟨.var [.cl (.int .i64 v5), .cl (.sli .u8 v6), .cl (.slg q13 v7)], false⟩)]⟩ => cond (Nat.beq q1 2 && Nat.beq q2 66 && Nat.beq q3 0 && Nat.beq q4 0 && Nat.beq q5 3 && Nat.beq q6 67 && Nat.beq q7 0 && Nat.beq q8 0 && Nat.beq q9 5 && Nat.beq q10 66 && Nat.beq q11 3 && Nat.beq q12 67 && Nat.beq q13 3) (shut (lpRSame_4 rk (fun y1 y2 y3 y4 y5 y6 y7 y8 y9 y10 y11 y12 y13 y14 y15 y16 y17 y18 y19 y20 y21 y22 y23 y24 y25 => k .ret ⟨[(2, .ptr 66 0 0), (3, .ptr 67 0 0), (4, .cl (.bool false)), (5, .cl (.int .i64 y1)), (28, .cl (.int .i64 y2)), (29, .ptr 66 0 2), (30, .cl (.slg 3 y3)), (31, .cl (.int .i64 y4)), (32, .cl (.bool true)), (35, .ptr 66 0 2), (36, .cl (.slg 3 y5)), (37, .cl (.int .i64 y6)), (38, .cl (.vp (.slg 3 y7) y8 0)), (39, .cl (.agg [.int .i64 y9, .sli .u8 y10, .slg 3 y11])), (40, .ptr 67 0 2), (41, .cl (.slg 3 y12)), (42, .cl (.int .i64 y13)), (43, .cl (.vp (.slg 3 y14) y15 0)), (44, .cl (.agg [.int .i64 y16, .sli .u8 y17, .slg 3 y18])), (45, .cl (.bool y19)), (46, .cl (.bool true))], [(66, ⟨.var [.cl (.int .i64 y20), .cl (.sli .u8 y21), .cl (.slg 3 y22)], false⟩), (67, ⟨.var [.cl (.int .i64 y23), .cl (.sli .u8 y24), .cl (.slg 3 y25)], false⟩)]⟩) (fun y1 y2 y3 y4 y5 y6 y7 y8 y9 y10 => k (.exit 0) ⟨[(2, .ptr 66 0 0), (3, .ptr 67 0 0), (5, .cl (.int .i64 y1)), (28, .cl (.int .i64 y2)), (29, .ptr 66 0 2), (30, .cl (.slg 3 y3)), (31, .cl (.int .i64 y4)), (32, .cl (.bool false))], [(66, ⟨.var [.cl (.int .i64 y5), .cl (.sli .u8 y6), .cl (.slg 3 y7)], false⟩), (67, ⟨.var [.cl (.int .i64 y8), .cl (.sli .u8 y9), .cl (.slg 3 y10)], false⟩)]⟩) FUEL) v1 v2 v3 v4 v5 v6 v7) none
 | _ => none
noncomputable def ERSame (rk : Nat) : Env := {
 orc := fun g => cond (Nat.beq g 12) (SR1Same) (cond (Nat.beq g 13) (SRSame) (fun _ _ => Tree.fail))
 pre := fun g => cond (Nat.beq g 12) (preR1Same) (cond (Nat.beq g 13) (preRRSame (rk)) (fun _ _ => true))
 byref := fun _ => []
 keep := fun _ => false
 live := fun r => cond (Nat.beq r 4) ([2, 3, 5]) ([])
 ren := fun _ => []
 glob := glVal
 nt := 47
 lp := fun r => cond (Nat.beq r 4) (some (LRSame_4 rk)) (none)
}
noncomputable def blpRSame_4 : Code := (Cd.fst (Cd.fst (Cd.snd (Cd.fst (Cd.snd (Cd.snd (Tryd.f13.body.getD .skip)))))))
theorem lpRSame_4_step (rk : Nat) (k : Ex -> St -> Option Out) (n : Nat) (v1 : Int) (v2 : Int) (v3 : List Int) (v4 : List CV) (v5 : Int) (v6 : List Int) (v7 : List CV) : iterK (n + 1) (codeK Tryd.prog (ERSame rk) 40 blpRSame_4) (head (ERSame rk) 4) ⟨[(2, .ptr 66 0 0), (3, .ptr 67 0 0), (5, .cl (.int .i64 v1))], [(66, ⟨.var [.cl (.int .i64 v2), .cl (.sli .u8 v3), .cl (.slg 3 v4)], false⟩), (67, ⟨.var [.cl (.int .i64 v5), .cl (.sli .u8 v6), .cl (.slg 3 v7)], false⟩)]⟩ k = lpRSame_4s rk (fun v1 v2 v3 v4 v5 v6 v7 => iterK n (codeK Tryd.prog (ERSame rk) 40 blpRSame_4) (head (ERSame rk) 4) ⟨[(2, .ptr 66 0 0), (3, .ptr 67 0 0), (5, .cl (.int .i64 v1))], [(66, ⟨.var [.cl (.int .i64 v2), .cl (.sli .u8 v3), .cl (.slg 3 v4)], false⟩), (67, ⟨.var [.cl (.int .i64 v5), .cl (.sli .u8 v6), .cl (.slg 3 v7)], false⟩)]⟩ k) (fun y1 y2 y3 y4 y5 y6 y7 y8 y9 y10 y11 y12 y13 y14 y15 y16 y17 y18 y19 y20 y21 y22 y23 y24 y25 => k .ret ⟨[(2, .ptr 66 0 0), (3, .ptr 67 0 0), (4, .cl (.bool false)), (5, .cl (.int .i64 y1)), (28, .cl (.int .i64 y2)), (29, .ptr 66 0 2), (30, .cl (.slg 3 y3)), (31, .cl (.int .i64 y4)), (32, .cl (.bool true)), (35, .ptr 66 0 2), (36, .cl (.slg 3 y5)), (37, .cl (.int .i64 y6)), (38, .cl (.vp (.slg 3 y7) y8 0)), (39, .cl (.agg [.int .i64 y9, .sli .u8 y10, .slg 3 y11])), (40, .ptr 67 0 2), (41, .cl (.slg 3 y12)), (42, .cl (.int .i64 y13)), (43, .cl (.vp (.slg 3 y14) y15 0)), (44, .cl (.agg [.int .i64 y16, .sli .u8 y17, .slg 3 y18])), (45, .cl (.bool y19)), (46, .cl (.bool true))], [(66, ⟨.var [.cl (.int .i64 y20), .cl (.sli .u8 y21), .cl (.slg 3 y22)], false⟩), (67, ⟨.var [.cl (.int .i64 y23), .cl (.sli .u8 y24), .cl (.slg 3 y25)], false⟩)]⟩) (fun y1 y2 y3 y4 y5 y6 y7 y8 y9 y10 => k (.exit 0) ⟨[(2, .ptr 66 0 0), (3, .ptr 67 0 0), (5, .cl (.int .i64 y1)), (28, .cl (.int .i64 y2)), (29, .ptr 66 0 2), (30, .cl (.slg 3 y3)), (31, .cl (.int .i64 y4)), (32, .cl (.bool false))], [(66, ⟨.var [.cl (.int .i64 y5), .cl (.sli .u8 y6), .cl (.slg 3 y7)], false⟩), (67, ⟨.var [.cl (.int .i64 y8), .cl (.sli .u8 y9), .cl (.slg 3 y10)], false⟩)]⟩) v1 v2 v3 v4 v5 v6 v7 := by kernel_rfl
theorem lpRSame_4_eq (rk : Nat) (k : Ex -> St -> Option Out) : ∀ (n : Nat), ∀ (v1 : Int) (v2 : Int) (v3 : List Int) (v4 : List CV) (v5 : Int) (v6 : List Int) (v7 : List CV), iterK n (codeK Tryd.prog (ERSame rk) 40 blpRSame_4) (head (ERSame rk) 4) ⟨[(2, .ptr 66 0 0), (3, .ptr 67 0 0), (5, .cl (.int .i64 v1))], [(66, ⟨.var [.cl (.int .i64 v2), .cl (.sli .u8 v3), .cl (.slg 3 v4)], false⟩), (67, ⟨.var [.cl (.int .i64 v5), .cl (.sli .u8 v6), .cl (.slg 3 v7)], false⟩)]⟩ k = lpRSame_4 rk (fun y1 y2 y3 y4 y5 y6 y7 y8 y9 y10 y11 y12 y13 y14 y15 y16 y17 y18 y19 y20 y21 y22 y23 y24 y25 => k .ret ⟨[(2, .ptr 66 0 0), (3, .ptr 67 0 0), (4, .cl (.bool false)), (5, .cl (.int .i64 y1)), (28, .cl (.int .i64 y2)), (29, .ptr 66 0 2), (30, .cl (.slg 3 y3)), (31, .cl (.int .i64 y4)), (32, .cl (.bool true)), (35, .ptr 66 0 2), (36, .cl (.slg 3 y5)), (37, .cl (.int .i64 y6)), (38, .cl (.vp (.slg 3 y7) y8 0)), (39, .cl (.agg [.int .i64 y9, .sli .u8 y10, .slg 3 y11])), (40, .ptr 67 0 2), (41, .cl (.slg 3 y12)), (42, .cl (.int .i64 y13)), (43, .cl (.vp (.slg 3 y14) y15 0)), (44, .cl (.agg [.int .i64 y16, .sli .u8 y17, .slg 3 y18])), (45, .cl (.bool y19)), (46, .cl (.bool true))], [(66, ⟨.var [.cl (.int .i64 y20), .cl (.sli .u8 y21), .cl (.slg 3 y22)], false⟩), (67, ⟨.var [.cl (.int .i64 y23), .cl (.sli .u8 y24), .cl (.slg 3 y25)], false⟩)]⟩) (fun y1 y2 y3 y4 y5 y6 y7 y8 y9 y10 => k (.exit 0) ⟨[(2, .ptr 66 0 0), (3, .ptr 67 0 0), (5, .cl (.int .i64 y1)), (28, .cl (.int .i64 y2)), (29, .ptr 66 0 2), (30, .cl (.slg 3 y3)), (31, .cl (.int .i64 y4)), (32, .cl (.bool false))], [(66, ⟨.var [.cl (.int .i64 y5), .cl (.sli .u8 y6), .cl (.slg 3 y7)], false⟩), (67, ⟨.var [.cl (.int .i64 y8), .cl (.sli .u8 y9), .cl (.slg 3 y10)], false⟩)]⟩) n v1 v2 v3 v4 v5 v6 v7
 | 0 => by intros; rfl
 | n + 1 => by
  intros
  rw [lpRSame_4_step]
  have ih := lpRSame_4_eq rk k n
  simp only [lpRSame_4, ih]
theorem LRSame_4_ok (rk : Nat) : ∀ (σ : St) (k : Ex -> St -> Option Out) (r : Out), LRSame_4 rk σ k = some r -> ∃ n, iterK n (codeK Tryd.prog (ERSame rk) 40 blpRSame_4) (head (ERSame rk) 4) σ k = some r := by
 intro σ k r h
 unfold LRSame_4 at h
 split at h
 ·replace h := cond_some h
  obtain ⟨hc, h⟩ := h
  simp only [Bool.and_eq_true, beq_prop, decide_eq_true_eq, Bool.not_eq_true'] at hc
  obtain ⟨⟨⟨⟨⟨⟨⟨⟨⟨⟨⟨⟨rfl, rfl⟩, rfl⟩, rfl⟩, rfl⟩, rfl⟩, rfl⟩, rfl⟩, rfl⟩, rfl⟩, rfl⟩, rfl⟩, rfl⟩ := hc
  rw [shut_eq] at h
  exact ⟨FUEL, (lpRSame_4_eq rk k FUEL _ _ _ _ _ _ _ ).trans h⟩
 ·cases h
theorem loopsRSame (rk : Nat) : ∀ c, Tryd.f13.body = some c -> LoopsOk Tryd.prog (ERSame rk) 40 c := by
 intro c hc
 cases hc
 exact ⟨trivial, ⟨⟨trivial, ⟨⟨trivial, trivial, jn_none rfl⟩, trivial, jn_none rfl⟩, jn_none rfl⟩, ⟨⟨trivial, ⟨⟨⟨trivial, ⟨trivial, trivial, jn_none rfl⟩, jn_none rfl⟩, ⟨⟨trivial, ⟨⟨trivial, trivial, jn_none rfl⟩, trivial, jn_none rfl⟩, jn_none rfl⟩, trivial, jn_none rfl⟩, jn_none rfl⟩, lp_some rfl (LRSame_4_ok rk)⟩, jn_none rfl⟩, ⟨trivial, trivial, jn_none rfl⟩, jn_none rfl⟩, jn_none rfl⟩, jn_none rfl⟩
noncomputable def gRSame (rk : Nat) (ta : Int) (ba : List Int) (ka : List CV) (tb : Int) (bb : List Int) (kb : List CV) : Option Out :=
 cond (!decide (ta = tb)) (
  some (.ret [.cl (.bool false)] []))
 (
  cond (lenOk ba) (
  let r1 : Bool := listSame ba bb
  cond (!r1) (
   some (.ret [.cl (.bool false)] []))
  (
   cond (!decide (((ka.length : Nat) : Int) = ((kb.length : Nat) : Int))) (
    some (.ret [.cl (.bool false)] []))
   (
    shut (lpRSame_4 rk
    (fun (y2 : Int) (y3 : Int) (y4 : List CV) (y5 : Int) (y6 : List CV) (y7 : Int) (y8 : List CV) (y9 : Nat) (y10 : Int) (y11 : List Int) (y12 : List CV) (y13 : List CV) (y14 : Int) (y15 : List CV) (y16 : Nat) (y17 : Int) (y18 : List Int) (y19 : List CV) (y20 : Bool) (y21 : Int) (y22 : List Int) (y23 : List CV) (y24 : Int) (y25 : List Int) (y26 : List CV) =>
     some (.ret [.cl (.bool false)] []))
    (fun (y27 : Int) (y28 : Int) (y29 : List CV) (y30 : Int) (y31 : Int) (y32 : List Int) (y33 : List CV) (y34 : Int) (y35 : List Int) (y36 : List CV) =>
     some (.ret [.cl (.bool true)] []))
    FUEL) 0 ta ba ka tb bb kb))) none)
theorem gRSame_eq (rk : Nat) (ta : Int) (ba : List Int) (ka : List CV) (tb : Int) (bb : List Int) (kb : List CV) : bodyK Tryd.prog (ERSame rk) 40 false Tryd.f13 [.cl (.agg [.int .i64 ta, .sli .u8 ba, .slg 3 ka]), .cl (.agg [.int .i64 tb, .sli .u8 bb, .slg 3 kb])] [] = gRSame rk ta ba ka tb bb kb := by kernel_rfl
end Go.Proofs.YtfkpjbbkdkcdcabDoorA

namespace Go.Proofs.YtfkpjbbkdkcdcabDoorA
noncomputable def EDFits : Env := {
 orc := fun g => cond (Nat.beq g 36) (SOParse) (cond (Nat.beq g 39) (SSRead) (cond (Nat.beq g 73) (SDNumber) (cond (Nat.beq g 74) (SDStrip) (cond (Nat.beq g 75) (SUValid) (fun _ _ => Tree.fail)))))
 pre := fun g => cond (Nat.beq g 36) (preOParse) (cond (Nat.beq g 39) (preSRead) (cond (Nat.beq g 73) (preDNumber) (cond (Nat.beq g 74) (preDStrip) (cond (Nat.beq g 75) (preUValid) (fun _ _ => true)))))
 byref := fun _ => []
 keep := fun _ => false
 live := fun _ => []
 ren := fun _ => []
 glob := glVal
 nt := 63
 lp := fun _ => none
}
theorem loopsDFits : ∀ c, Tryd.f65.body = some c -> LoopsOk Tryd.prog (EDFits) 40 c := by
 intro c hc
 cases hc
 exact ⟨trivial, ⟨⟨trivial, ⟨trivial, ⟨⟨trivial, trivial, jn_none rfl⟩, ⟨trivial, ⟨⟨trivial, trivial, jn_none rfl⟩, ⟨trivial, ⟨⟨trivial, trivial, jn_none rfl⟩, ⟨trivial, ⟨⟨trivial, trivial, jn_none rfl⟩, ⟨trivial, ⟨⟨trivial, ⟨trivial, trivial, jn_none rfl⟩, jn_none rfl⟩, ⟨trivial, ⟨⟨trivial, trivial, jn_none rfl⟩, ⟨trivial, ⟨⟨trivial, ⟨trivial, trivial, jn_none rfl⟩, jn_none rfl⟩, trivial, jn_none rfl⟩, jn_none rfl⟩, jn_none rfl⟩, jn_none rfl⟩, jn_none rfl⟩, jn_none rfl⟩, jn_none rfl⟩, jn_none rfl⟩, jn_none rfl⟩, jn_none rfl⟩, jn_none rfl⟩, jn_none rfl⟩, jn_none rfl⟩, jn_none rfl⟩, jn_none rfl⟩, ⟨trivial, trivial, jn_none rfl⟩, jn_none rfl⟩, jn_none rfl⟩
noncomputable def gDFits (tag : Int) (b : List Int) : Option Out :=
 cond (decide (tag = 1)) (
  cond (decide (((b.length : Nat) : Int) = 1)) (
   cond (decide ((0 : Int) < ((b.length : Nat) : Int))) (
   Option.bind (b[0]?) fun (e1 : Int) =>
   cond (decide (e1 = 0)) (
    some (.ret [.cl (.bool true)] []))
   (
    cond (decide ((0 : Int) < ((b.length : Nat) : Int))) (
    Option.bind (b[0]?) fun (e2 : Int) =>
    some (.ret [.cl (.bool (decide (e2 = 255)))] [])) none)) none)
  (
   some (.ret [.cl (.bool false)] [])))
 (
  cond (decide (tag = 2)) (
   cond (bytesOk b) (
   let r3 : Bool := derNumber b
   some (.ret [.cl (.bool r3)] [])) none)
  (
   cond (decide (tag = 3)) (
    cond (bytesOk b) (
    let r4 : Bool := derStrip b
    some (.ret [.cl (.bool r4)] [])) none)
   (
    cond (decide (tag = 5)) (
     some (.ret [.cl (.bool (decide (((b.length : Nat) : Int) = 0)))] []))
    (
     cond (decide (tag = 6)) (
      cond (bytesOk b) (
      let r6 : Int := (oidParse b).2
      some (.ret [.cl (.bool (decide (r6 = 0)))] [])) none)
     (
      cond (decide (tag = 12)) (
       cond (bytesOk b) (
       let r7 : Bool := u8Valid b
       some (.ret [.cl (.bool r7)] [])) none)
      (
       cond (decide (tag = 24)) (
        let s8 : ByteArray := strOf b
        let r10 : Int := (stRead s8).2
        some (.ret [.cl (.bool (decide (r10 = 0)))] []))
       (
        some (.ret [.cl (.bool true)] []))))))))
theorem gDFits_eq (tag : Int) (b : List Int) : bodyK Tryd.prog (EDFits) 40 false Tryd.f65 [.cl (.int .i64 tag), .cl (.sli .u8 b)] [] = gDFits tag b := by kernel_rfl
end Go.Proofs.YtfkpjbbkdkcdcabDoorA

namespace Go.Proofs.YtfkpjbbkdkcdcabDoorA
noncomputable def EBCompare : Env := {
 orc := fun g => cond (Nat.beq g 60) (SBACompare) (fun _ _ => Tree.fail)
 pre := fun g => cond (Nat.beq g 60) (preBACompare) (fun _ _ => true)
 byref := fun _ => []
 keep := fun _ => false
 live := fun _ => []
 ren := fun _ => []
 glob := glVal
 nt := 8
 lp := fun _ => none
}
theorem loopsBCompare : ∀ c, Tryd.f44.body = some c -> LoopsOk Tryd.prog (EBCompare) 40 c := by
 intro c hc
 cases hc
 exact ⟨trivial, ⟨trivial, trivial, jn_none rfl⟩, jn_none rfl⟩
noncomputable def gBCompare (a : List Int) (b : List Int) : Option Out :=
 cond (bytesOk a && bytesOk b) (
 let r1 : Int := listCmp a b
 some (.ret [.cl (.int .i64 r1)] [])) none
theorem gBCompare_eq (a : List Int) (b : List Int) : bodyK Tryd.prog (EBCompare) 40 false Tryd.f44 [.cl (.sli .u8 a), .cl (.sli .u8 b)] [] = gBCompare a b := by kernel_rfl
end Go.Proofs.YtfkpjbbkdkcdcabDoorA

namespace Go.Proofs.YtfkpjbbkdkcdcabDoorA
noncomputable def EOLess : Env := {
 orc := fun g => cond (Nat.beq g 44) (SBCompare) (fun _ _ => Tree.fail)
 pre := fun g => cond (Nat.beq g 44) (preBCompare) (fun _ _ => true)
 byref := fun _ => []
 keep := fun _ => false
 live := fun _ => []
 ren := fun _ => []
 glob := glVal
 nt := 9
 lp := fun _ => none
}
theorem loopsOLess : ∀ c, Tryd.f77.body = some c -> LoopsOk Tryd.prog (EOLess) 40 c := by
 intro c hc
 cases hc
 exact ⟨trivial, ⟨trivial, trivial, jn_none rfl⟩, jn_none rfl⟩
noncomputable def gOLess (a : List Int) (b : List Int) : Option Out :=
 cond (bytesOk a && bytesOk b) (
 let r1 : Int := listCmp a b
 some (.ret [.cl (.bool (decide (r1 <= 0)))] [])) none
theorem gOLess_eq (a : List Int) (b : List Int) : bodyK Tryd.prog (EOLess) 40 false Tryd.f77 [.cl (.sli .u8 a), .cl (.sli .u8 b)] [] = gOLess a b := by kernel_rfl
end Go.Proofs.YtfkpjbbkdkcdcabDoorA

namespace Go.Proofs.YtfkpjbbkdkcdcabDoorA
noncomputable def lpOSteps_2s (again : (List CV) -> Int -> Option Out) (k0 : (List CV) -> Int -> Int -> (List CV) -> Int -> (List CV) -> Int -> Int -> (List CV) -> Nat -> (List Int) -> (List CV) -> Int -> (List CV) -> Nat -> (List Int) -> Bool -> Option Out) (k1 : (List CV) -> Int -> Int -> (List CV) -> Int -> Option Out) (v1 : List CV) (v2 : Int) : Option Out :=
 cond (decide (v2 < ((v1.length : Nat) : Int))) (
  let x1 : Int := IntKind.i64.wrap (v2 - 1)
  cond (decide ((0 : Int) <= x1)) (
  cond (decide (x1 < ((v1.length : Nat) : Int))) (
  Option.bind (v1[(Int.toNat x1)]?) fun (e2 : CV) =>
  let e3 : CV := (cell1 e2).getD 0 .nili
  cond (okSli .u8 e3) (
  let l4 : List Int := cvSli e3
  cond (decide ((0 : Int) <= v2)) (
  cond (decide (v2 < ((v1.length : Nat) : Int))) (
  Option.bind (v1[(Int.toNat v2)]?) fun (e5 : CV) =>
  let e6 : CV := (cell1 e5).getD 0 .nili
  cond (okSli .u8 e6) (
  let l7 : List Int := cvSli e6
  cond (bytesOk l4 && bytesOk l7) (
  let r8 : Bool := decide (listCmp l4 l7 <= 0)
  cond (!r8) (
   k0 v1 v2 v2 v1 ((v1.length : Nat) : Int) v1 v2 x1 v1 (Int.toNat x1) l4 v1 v2 v1 (Int.toNat v2) l7 r8)
  (
   let x9 : Int := IntKind.i64.wrap (v2 + 1)
   again v1 x9)) none) none) none) none) none) none) none)
 (
  k1 v1 v2 v2 v1 ((v1.length : Nat) : Int))
noncomputable def lpOSteps_2 (k0 : (List CV) -> Int -> Int -> (List CV) -> Int -> (List CV) -> Int -> Int -> (List CV) -> Nat -> (List Int) -> (List CV) -> Int -> (List CV) -> Nat -> (List Int) -> Bool -> Option Out) (k1 : (List CV) -> Int -> Int -> (List CV) -> Int -> Option Out) : Nat -> (List CV) -> Int -> Option Out
 | 0 => fun _ _ => none
 | n + 1 => lpOSteps_2s (lpOSteps_2 k0 k1 n) k0 k1
noncomputable def LOSteps_2 : St -> (Ex -> St -> Option Out) -> Option Out := fun σ k => match σ with
 | ⟨[(q1, .cl (.slg q2 v1)), (q3, .cl (.fn (.func q4) [] [])), (q5, .cl (.int .i64 v2))], []⟩ => cond (Nat.beq q1 0 && Nat.beq q2 1 && Nat.beq q3 1 && Nat.beq q4 77 && Nat.beq q5 5) (shut (lpOSteps_2 (fun y1 y2 y3 y4 y5 y6 y7 y8 y9 y10 y11 y12 y13 y14 y15 y16 y17 => k .ret ⟨[(0, .cl (.slg 1 y1)), (1, .cl (.fn (.func 77) [] [])), (4, .cl (.bool false)), (5, .cl (.int .i64 y2)), (6, .cl (.int .i64 y3)), (7, .cl (.slg 1 y4)), (8, .cl (.int .i64 y5)), (9, .cl (.bool true)), (12, .cl (.fn (.func 77) [] [])), (13, .cl (.slg 1 y6)), (14, .cl (.int .i64 y7)), (15, .cl (.int .i64 y8)), (16, .cl (.vp (.slg 1 y9) y10 0)), (17, .cl (.sli .u8 y11)), (18, .cl (.slg 1 y12)), (19, .cl (.int .i64 y13)), (20, .cl (.vp (.slg 1 y14) y15 0)), (21, .cl (.sli .u8 y16)), (22, .cl (.bool y17)), (23, .cl (.bool true))], []⟩) (fun y1 y2 y3 y4 y5 => k (.exit 0) ⟨[(0, .cl (.slg 1 y1)), (1, .cl (.fn (.func 77) [] [])), (5, .cl (.int .i64 y2)), (6, .cl (.int .i64 y3)), (7, .cl (.slg 1 y4)), (8, .cl (.int .i64 y5)), (9, .cl (.bool false))], []⟩) FUEL) v1 v2) none
 | _ => none
noncomputable def EOSteps : Env := {
 orc := fun g => cond (Nat.beq g 77) (SOLess) (fun _ _ => Tree.fail)
 pre := fun g => cond (Nat.beq g 77) (preOLess) (fun _ _ => true)
 byref := fun _ => []
 keep := fun _ => false
 live := fun r => cond (Nat.beq r 2) ([0, 1, 5]) ([])
 ren := fun _ => []
 glob := glVal
 nt := 24
 lp := fun r => cond (Nat.beq r 2) (some (LOSteps_2)) (none)
}
noncomputable def blpOSteps_2 : Code := (Cd.fst (Cd.fst (Cd.snd (Cd.fst (Cd.snd (Tryd.f76.body.getD .skip))))))
theorem lpOSteps_2_step (k : Ex -> St -> Option Out) (n : Nat) (v1 : List CV) (v2 : Int) : iterK (n + 1) (codeK Tryd.prog (EOSteps) 40 blpOSteps_2) (head (EOSteps) 2) ⟨[(0, .cl (.slg 1 v1)), (1, .cl (.fn (.func 77) [] [])), (5, .cl (.int .i64 v2))], []⟩ k = lpOSteps_2s (fun v1 v2 => iterK n (codeK Tryd.prog (EOSteps) 40 blpOSteps_2) (head (EOSteps) 2) ⟨[(0, .cl (.slg 1 v1)), (1, .cl (.fn (.func 77) [] [])), (5, .cl (.int .i64 v2))], []⟩ k) (fun y1 y2 y3 y4 y5 y6 y7 y8 y9 y10 y11 y12 y13 y14 y15 y16 y17 => k .ret ⟨[(0, .cl (.slg 1 y1)), (1, .cl (.fn (.func 77) [] [])), (4, .cl (.bool false)), (5, .cl (.int .i64 y2)), (6, .cl (.int .i64 y3)), (7, .cl (.slg 1 y4)), (8, .cl (.int .i64 y5)), (9, .cl (.bool true)), (12, .cl (.fn (.func 77) [] [])), (13, .cl (.slg 1 y6)), (14, .cl (.int .i64 y7)), (15, .cl (.int .i64 y8)), (16, .cl (.vp (.slg 1 y9) y10 0)), (17, .cl (.sli .u8 y11)), (18, .cl (.slg 1 y12)), (19, .cl (.int .i64 y13)), (20, .cl (.vp (.slg 1 y14) y15 0)), (21, .cl (.sli .u8 y16)), (22, .cl (.bool y17)), (23, .cl (.bool true))], []⟩) (fun y1 y2 y3 y4 y5 => k (.exit 0) ⟨[(0, .cl (.slg 1 y1)), (1, .cl (.fn (.func 77) [] [])), (5, .cl (.int .i64 y2)), (6, .cl (.int .i64 y3)), (7, .cl (.slg 1 y4)), (8, .cl (.int .i64 y5)), (9, .cl (.bool false))], []⟩) v1 v2 := by kernel_rfl
theorem lpOSteps_2_eq (k : Ex -> St -> Option Out) : ∀ (n : Nat), ∀ (v1 : List CV) (v2 : Int), iterK n (codeK Tryd.prog (EOSteps) 40 blpOSteps_2) (head (EOSteps) 2) ⟨[(0, .cl (.slg 1 v1)), (1, .cl (.fn (.func 77) [] [])), (5, .cl (.int .i64 v2))], []⟩ k = lpOSteps_2 (fun y1 y2 y3 y4 y5 y6 y7 y8 y9 y10 y11 y12 y13 y14 y15 y16 y17 => k .ret ⟨[(0, .cl (.slg 1 y1)), (1, .cl (.fn (.func 77) [] [])), (4, .cl (.bool false)), (5, .cl (.int .i64 y2)), (6, .cl (.int .i64 y3)), (7, .cl (.slg 1 y4)), (8, .cl (.int .i64 y5)), (9, .cl (.bool true)), (12, .cl (.fn (.func 77) [] [])), (13, .cl (.slg 1 y6)), (14, .cl (.int .i64 y7)), (15, .cl (.int .i64 y8)), (16, .cl (.vp (.slg 1 y9) y10 0)), (17, .cl (.sli .u8 y11)), (18, .cl (.slg 1 y12)), (19, .cl (.int .i64 y13)), (20, .cl (.vp (.slg 1 y14) y15 0)), (21, .cl (.sli .u8 y16)), (22, .cl (.bool y17)), (23, .cl (.bool true))], []⟩) (fun y1 y2 y3 y4 y5 => k (.exit 0) ⟨[(0, .cl (.slg 1 y1)), (1, .cl (.fn (.func 77) [] [])), (5, .cl (.int .i64 y2)), (6, .cl (.int .i64 y3)), (7, .cl (.slg 1 y4)), (8, .cl (.int .i64 y5)), (9, .cl (.bool false))], []⟩) n v1 v2
 | 0 => by intros; rfl
 | n + 1 => by
  intros
  rw [lpOSteps_2_step]
  have ih := lpOSteps_2_eq k n
  simp only [lpOSteps_2, ih]
theorem LOSteps_2_ok : ∀ (σ : St) (k : Ex -> St -> Option Out) (r : Out), LOSteps_2 σ k = some r -> ∃ n, iterK n (codeK Tryd.prog (EOSteps) 40 blpOSteps_2) (head (EOSteps) 2) σ k = some r := by
 intro σ k r h
 unfold LOSteps_2 at h
 split at h
 ·replace h := cond_some h
  obtain ⟨hc, h⟩ := h
  simp only [Bool.and_eq_true, beq_prop, decide_eq_true_eq, Bool.not_eq_true'] at hc
  obtain ⟨⟨⟨⟨rfl, rfl⟩, rfl⟩, rfl⟩, rfl⟩ := hc
  rw [shut_eq] at h
  exact ⟨FUEL, (lpOSteps_2_eq k FUEL _ _ ).trans h⟩
 ·cases h
theorem loopsOSteps : ∀ c, Tryd.f76.body = some c -> LoopsOk Tryd.prog (EOSteps) 40 c := by
 intro c hc
 cases hc
 exact ⟨trivial, ⟨⟨trivial, ⟨⟨⟨trivial, ⟨trivial, trivial, jn_none rfl⟩, jn_none rfl⟩, ⟨⟨trivial, ⟨⟨trivial, trivial, jn_none rfl⟩, trivial, jn_none rfl⟩, jn_none rfl⟩, trivial, jn_none rfl⟩, jn_none rfl⟩, lp_some rfl (LOSteps_2_ok)⟩, jn_none rfl⟩, ⟨trivial, trivial, jn_none rfl⟩, jn_none rfl⟩, jn_none rfl⟩
noncomputable def gOSteps (l : List CV) : Option Out :=
 shut (lpOSteps_2
 (fun (y1 : List CV) (y2 : Int) (y3 : Int) (y4 : List CV) (y5 : Int) (y6 : List CV) (y7 : Int) (y8 : Int) (y9 : List CV) (y10 : Nat) (y11 : List Int) (y12 : List CV) (y13 : Int) (y14 : List CV) (y15 : Nat) (y16 : List Int) (y17 : Bool) =>
  some (.ret [.cl (.bool false)] []))
 (fun (y18 : List CV) (y19 : Int) (y20 : Int) (y21 : List CV) (y22 : Int) =>
  some (.ret [.cl (.bool true)] []))
 FUEL) l 1
theorem gOSteps_eq (l : List CV) : bodyK Tryd.prog (EOSteps) 40 false Tryd.f76 [.cl (.slg 1 l), .cl (.fn (.func 77) [] [])] [] = gOSteps l := by kernel_rfl
end Go.Proofs.YtfkpjbbkdkcdcabDoorA

namespace Go.Proofs.YtfkpjbbkdkcdcabDoorA
noncomputable def EOSorted : Env := {
 orc := fun g => cond (Nat.beq g 76) (SOSteps) (cond (Nat.beq g 77) (SOLess) (fun _ _ => Tree.fail))
 pre := fun g => cond (Nat.beq g 76) (preOSteps) (cond (Nat.beq g 77) (preOLess) (fun _ _ => true))
 byref := fun _ => []
 keep := fun _ => false
 live := fun _ => []
 ren := fun _ => []
 glob := glVal
 nt := 5
 lp := fun _ => none
}
theorem loopsOSorted : ∀ c, Tryd.f68.body = some c -> LoopsOk Tryd.prog (EOSorted) 40 c := by
 intro c hc
 cases hc
 exact ⟨trivial, ⟨trivial, trivial, jn_none rfl⟩, jn_none rfl⟩
noncomputable def gOSorted (l : List CV) : Option Out :=
 cond (rowsOk l) (
 let r1 : Bool := rowsSorted l
 some (.ret [.cl (.bool r1)] [])) none
theorem gOSorted_eq (l : List CV) : bodyK Tryd.prog (EOSorted) 40 false Tryd.f68 [.cl (.slg 1 l)] [] = gOSorted l := by kernel_rfl
end Go.Proofs.YtfkpjbbkdkcdcabDoorA

namespace Go.Proofs.YtfkpjbbkdkcdcabDoorA
noncomputable def lpRSmall_3s (rk : Nat) (again : Int -> Int -> Int -> (List Int) -> (List CV) -> Option Out) (k0 : Int -> Int -> Int -> (List CV) -> Int -> Bool -> Int -> Bool -> Int -> (List Int) -> (List CV) -> Option Out) (k1 : Int -> Int -> Int -> (List CV) -> Int -> Bool -> Int -> (List Int) -> (List CV) -> Option Out) (v1 : Int) (v2 : Int) (v3 : Int) (v4 : List Int) (v5 : List CV) : Option Out :=
 cond (decide (v2 < ((v5.length : Nat) : Int))) (
  cond (decide ((0 : Int) <= v1)) (
   cond (decide ((0 : Int) <= v2)) (
   cond (decide (v2 < ((v5.length : Nat) : Int))) (
   Option.bind (v5[(Int.toNat v2)]?) fun (e4 : CV) =>
   let e5 : CV := (cell1 e4).headD .nili
   let e6 : CV := (cell1 e4).tail.headD .nili
   let e7 : CV := (cell1 e4).tail.tail.headD .nili
   cond (okInt .i64 e5 && (okSli .u8 e6 && (okSlg 3 e7 && true))) (
   let i8 : Int := cvInt e5
   let l9 : List Int := cvSli e6
   let l10 : List CV := cvSlg e7
   cond (isTr rk [.int .i64 i8, .sli .u8 l9, .slg 3 l10] && leftOk v1) (
   let r11 : Int := ndSmall [.int .i64 i8, .sli .u8 l9, .slg 3 l10] v1
   let x12 : Int := IntKind.i64.wrap (v2 + 1)
   again r11 x12 v3 v4 v5) none) none) none) none)
  (
   k0 v1 v2 v2 v5 ((v5.length : Nat) : Int) (decide (v2 < ((v5.length : Nat) : Int))) v1 (decide ((0 : Int) <= v1)) v3 v4 v5))
 (
  k1 v1 v2 v2 v5 ((v5.length : Nat) : Int) (decide (v2 < ((v5.length : Nat) : Int))) v3 v4 v5)
noncomputable def lpRSmall_3 (rk : Nat) (k0 : Int -> Int -> Int -> (List CV) -> Int -> Bool -> Int -> Bool -> Int -> (List Int) -> (List CV) -> Option Out) (k1 : Int -> Int -> Int -> (List CV) -> Int -> Bool -> Int -> (List Int) -> (List CV) -> Option Out) : Nat -> Int -> Int -> Int -> (List Int) -> (List CV) -> Option Out
 | 0 => fun _ _ _ _ _ => none
 | n + 1 => lpRSmall_3s rk (lpRSmall_3 rk k0 k1 n) k0 k1
noncomputable def LRSmall_3 (rk : Nat) : St -> (Ex -> St -> Option Out) -> Option Out := fun σ k => match σ with
 | ⟨[(q1, .cl (.int .i64 v1)), (q2, .ptr q3 q4 q5), (q6, .cl (.int .i64 v2))], [(q7, ⟨.var [.cl (.int .i64 v3), .cl (.sli .u8 v4), .cl (.slg q8 v5)], false⟩)]⟩ => cond (Nat.beq q1 1 && Nat.beq q2 2 && Nat.beq q3 66 && Nat.beq q4 0 && Nat.beq q5 0 && Nat.beq q6 5 && Nat.beq q7 66 && Nat.beq q8 3) (shut (lpRSmall_3 rk (fun y1 y2 y3 y4 y5 y6 y7 y8 y9 y10 y11 => k (.exit 0) ⟨[(1, .cl (.int .i64 y1)), (2, .ptr 66 0 0), (5, .cl (.int .i64 y2)), (13, .cl (.int .i64 y3)), (14, .ptr 66 0 2), (15, .cl (.slg 3 y4)), (16, .cl (.int .i64 y5)), (17, .cl (.bool y6)), (18, .cl (.bool true)), (19, .cl (.int .i64 y7)), (20, .cl (.bool y8)), (21, .cl (.bool false))], [(66, ⟨.var [.cl (.int .i64 y9), .cl (.sli .u8 y10), .cl (.slg 3 y11)], false⟩)]⟩) (fun y1 y2 y3 y4 y5 y6 y7 y8 y9 => k (.exit 0) ⟨[(1, .cl (.int .i64 y1)), (2, .ptr 66 0 0), (5, .cl (.int .i64 y2)), (13, .cl (.int .i64 y3)), (14, .ptr 66 0 2), (15, .cl (.slg 3 y4)), (16, .cl (.int .i64 y5)), (17, .cl (.bool y6)), (18, .cl (.bool false)), (19, .tup []), (20, .tup []), (21, .cl (.bool false))], [(66, ⟨.var [.cl (.int .i64 y7), .cl (.sli .u8 y8), .cl (.slg 3 y9)], false⟩)]⟩) FUEL) v1 v2 v3 v4 v5) none
 | _ => none
noncomputable def ERSmall (rk : Nat) : Env := {
 orc := fun g => cond (Nat.beq g 40) (SRSmall) (fun _ _ => Tree.fail)
 pre := fun g => cond (Nat.beq g 40) (preRRSmall (rk)) (fun _ _ => true)
 byref := fun _ => []
 keep := fun _ => false
 live := fun r => cond (Nat.beq r 3) ([1, 2, 5]) ([])
 ren := fun _ => []
 glob := glVal
 nt := 32
 lp := fun r => cond (Nat.beq r 3) (some (LRSmall_3 rk)) (none)
}
noncomputable def blpRSmall_3 : Code := (Cd.fst (Cd.fst (Cd.snd (Cd.fst (Cd.snd (Cd.snd (Tryd.f40.body.getD .skip)))))))
theorem lpRSmall_3_step (rk : Nat) (k : Ex -> St -> Option Out) (n : Nat) (v1 : Int) (v2 : Int) (v3 : Int) (v4 : List Int) (v5 : List CV) : iterK (n + 1) (codeK Tryd.prog (ERSmall rk) 40 blpRSmall_3) (head (ERSmall rk) 3) ⟨[(1, .cl (.int .i64 v1)), (2, .ptr 66 0 0), (5, .cl (.int .i64 v2))], [(66, ⟨.var [.cl (.int .i64 v3), .cl (.sli .u8 v4), .cl (.slg 3 v5)], false⟩)]⟩ k = lpRSmall_3s rk (fun v1 v2 v3 v4 v5 => iterK n (codeK Tryd.prog (ERSmall rk) 40 blpRSmall_3) (head (ERSmall rk) 3) ⟨[(1, .cl (.int .i64 v1)), (2, .ptr 66 0 0), (5, .cl (.int .i64 v2))], [(66, ⟨.var [.cl (.int .i64 v3), .cl (.sli .u8 v4), .cl (.slg 3 v5)], false⟩)]⟩ k) (fun y1 y2 y3 y4 y5 y6 y7 y8 y9 y10 y11 => k (.exit 0) ⟨[(1, .cl (.int .i64 y1)), (2, .ptr 66 0 0), (5, .cl (.int .i64 y2)), (13, .cl (.int .i64 y3)), (14, .ptr 66 0 2), (15, .cl (.slg 3 y4)), (16, .cl (.int .i64 y5)), (17, .cl (.bool y6)), (18, .cl (.bool true)), (19, .cl (.int .i64 y7)), (20, .cl (.bool y8)), (21, .cl (.bool false))], [(66, ⟨.var [.cl (.int .i64 y9), .cl (.sli .u8 y10), .cl (.slg 3 y11)], false⟩)]⟩) (fun y1 y2 y3 y4 y5 y6 y7 y8 y9 => k (.exit 0) ⟨[(1, .cl (.int .i64 y1)), (2, .ptr 66 0 0), (5, .cl (.int .i64 y2)), (13, .cl (.int .i64 y3)), (14, .ptr 66 0 2), (15, .cl (.slg 3 y4)), (16, .cl (.int .i64 y5)), (17, .cl (.bool y6)), (18, .cl (.bool false)), (19, .tup []), (20, .tup []), (21, .cl (.bool false))], [(66, ⟨.var [.cl (.int .i64 y7), .cl (.sli .u8 y8), .cl (.slg 3 y9)], false⟩)]⟩) v1 v2 v3 v4 v5 := by kernel_rfl
theorem lpRSmall_3_eq (rk : Nat) (k : Ex -> St -> Option Out) : ∀ (n : Nat), ∀ (v1 : Int) (v2 : Int) (v3 : Int) (v4 : List Int) (v5 : List CV), iterK n (codeK Tryd.prog (ERSmall rk) 40 blpRSmall_3) (head (ERSmall rk) 3) ⟨[(1, .cl (.int .i64 v1)), (2, .ptr 66 0 0), (5, .cl (.int .i64 v2))], [(66, ⟨.var [.cl (.int .i64 v3), .cl (.sli .u8 v4), .cl (.slg 3 v5)], false⟩)]⟩ k = lpRSmall_3 rk (fun y1 y2 y3 y4 y5 y6 y7 y8 y9 y10 y11 => k (.exit 0) ⟨[(1, .cl (.int .i64 y1)), (2, .ptr 66 0 0), (5, .cl (.int .i64 y2)), (13, .cl (.int .i64 y3)), (14, .ptr 66 0 2), (15, .cl (.slg 3 y4)), (16, .cl (.int .i64 y5)), (17, .cl (.bool y6)), (18, .cl (.bool true)), (19, .cl (.int .i64 y7)), (20, .cl (.bool y8)), (21, .cl (.bool false))], [(66, ⟨.var [.cl (.int .i64 y9), .cl (.sli .u8 y10), .cl (.slg 3 y11)], false⟩)]⟩) (fun y1 y2 y3 y4 y5 y6 y7 y8 y9 => k (.exit 0) ⟨[(1, .cl (.int .i64 y1)), (2, .ptr 66 0 0), (5, .cl (.int .i64 y2)), (13, .cl (.int .i64 y3)), (14, .ptr 66 0 2), (15, .cl (.slg 3 y4)), (16, .cl (.int .i64 y5)), (17, .cl (.bool y6)), (18, .cl (.bool false)), (19, .tup []), (20, .tup []), (21, .cl (.bool false))], [(66, ⟨.var [.cl (.int .i64 y7), .cl (.sli .u8 y8), .cl (.slg 3 y9)], false⟩)]⟩) n v1 v2 v3 v4 v5
 | 0 => by intros; rfl
 | n + 1 => by
  intros
  rw [lpRSmall_3_step]
  have ih := lpRSmall_3_eq rk k n
  simp only [lpRSmall_3, ih]
theorem LRSmall_3_ok (rk : Nat) : ∀ (σ : St) (k : Ex -> St -> Option Out) (r : Out), LRSmall_3 rk σ k = some r -> ∃ n, iterK n (codeK Tryd.prog (ERSmall rk) 40 blpRSmall_3) (head (ERSmall rk) 3) σ k = some r := by
 intro σ k r h
 unfold LRSmall_3 at h
 split at h
 ·replace h := cond_some h
  obtain ⟨hc, h⟩ := h
  simp only [Bool.and_eq_true, beq_prop, decide_eq_true_eq, Bool.not_eq_true'] at hc
  obtain ⟨⟨⟨⟨⟨⟨⟨rfl, rfl⟩, rfl⟩, rfl⟩, rfl⟩, rfl⟩, rfl⟩, rfl⟩ := hc
  rw [shut_eq] at h
  exact ⟨FUEL, (lpRSmall_3_eq rk k FUEL _ _ _ _ _ ).trans h⟩
 ·cases h
theorem loopsRSmall (rk : Nat) : ∀ c, Tryd.f40.body = some c -> LoopsOk Tryd.prog (ERSmall rk) 40 c := by
 intro c hc
 cases hc
 exact ⟨trivial, ⟨trivial, ⟨⟨trivial, ⟨⟨⟨trivial, ⟨trivial, trivial, jn_none rfl⟩, jn_none rfl⟩, ⟨trivial, trivial, jn_none rfl⟩, jn_none rfl⟩, lp_some rfl (LRSmall_3_ok rk)⟩, jn_none rfl⟩, ⟨trivial, trivial, jn_none rfl⟩, jn_none rfl⟩, jn_none rfl⟩, jn_none rfl⟩
noncomputable def gRSmall (rk : Nat) (ta : Int) (ba : List Int) (ka : List CV) (left : Int) : Option Out :=
 let x1 : Int := IntKind.i64.wrap (left - 1)
 let x2 : Int := cond (decide ((1048576 : Int) < ((ba.length : Nat) : Int))) 1048576 ((ba.length : Nat) : Int)
 let x3 : Int := IntKind.i64.wrap (x1 - x2)
 shut (lpRSmall_3 rk
 (fun (y4 : Int) (y5 : Int) (y6 : Int) (y7 : List CV) (y8 : Int) (y9 : Bool) (y10 : Int) (y11 : Bool) (y12 : Int) (y13 : List Int) (y14 : List CV) =>
  some (.ret [.cl (.int .i64 y4)] []))
 (fun (y15 : Int) (y16 : Int) (y17 : Int) (y18 : List CV) (y19 : Int) (y20 : Bool) (y21 : Int) (y22 : List Int) (y23 : List CV) =>
  some (.ret [.cl (.int .i64 y15)] []))
 FUEL) x3 0 ta ba ka
theorem gRSmall_eq (rk : Nat) (ta : Int) (ba : List Int) (ka : List CV) (left : Int) : bodyK Tryd.prog (ERSmall rk) 40 false Tryd.f40 [.cl (.agg [.int .i64 ta, .sli .u8 ba, .slg 3 ka]), .cl (.int .i64 left)] [] = gRSmall rk ta ba ka left := by kernel_rfl
end Go.Proofs.YtfkpjbbkdkcdcabDoorA

namespace Go.Proofs.YtfkpjbbkdkcdcabDoorA
noncomputable def lpDSize_8s (rk : Nat) (again : Int -> Int -> (List CV) -> Int -> Int -> Option Out) (k0 : Int -> Int -> Int -> (List CV) -> Int -> Int -> (List CV) -> Nat -> Int -> (List Int) -> (List CV) -> Int -> (List Int) -> (List CV) -> Int -> Int -> Int -> Int -> Int -> Int -> Int -> Bool -> Int -> (List Int) -> (List CV) -> Option Out) (k1 : Int -> Int -> Int -> (List CV) -> Int -> Int -> (List CV) -> Nat -> Int -> (List Int) -> (List CV) -> Int -> (List Int) -> (List CV) -> Int -> Int -> Int -> Int -> Int -> Int -> Int -> Bool -> Int -> Bool -> Int -> (List Int) -> (List CV) -> Option Out) (k2 : Int -> Int -> (List CV) -> Int -> Int -> Option Out) (v1 : Int) (v2 : Int) (v3 : List CV) (v4 : Int) (v5 : Int) : Option Out :=
 cond (decide (v5 < v4)) (
  cond (decide ((0 : Int) <= v5)) (
  cond (decide (v5 < ((v3.length : Nat) : Int))) (
  Option.bind (v3[(Int.toNat v5)]?) fun (e3 : CV) =>
  let e4 : CV := (cell1 e3).headD .nili
  let e5 : CV := (cell1 e3).tail.headD .nili
  let e6 : CV := (cell1 e3).tail.tail.headD .nili
  cond (okInt .i64 e4 && (okSli .u8 e5 && (okSlg 3 e6 && true))) (
  let i7 : Int := cvInt e4
  let l8 : List Int := cvSli e5
  let l9 : List CV := cvSlg e6
  let x10 : Int := IntKind.i64.wrap (v1 - 1)
  cond (isSr rk [.int .i64 i7, .sli .u8 l8, .slg 3 l9] && deepOk x10) (
  let r11 : Int := ndSize [.int .i64 i7, .sli .u8 l8, .slg 3 l9] x10
  let x12 : Int := IntKind.i64.wrap (v2 + r11)
  cond (decide (r11 < 0)) (
   k0 v1 x12 r11 v3 v4 v5 v3 (Int.toNat v5) i7 l8 l9 i7 l8 l9 v1 x10 r11 v2 r11 x12 r11 (decide (r11 < 0)) i7 l8 l9)
  (
   cond (decide ((1048576 : Int) < x12)) (
    k1 v1 x12 r11 v3 v4 v5 v3 (Int.toNat v5) i7 l8 l9 i7 l8 l9 v1 x10 r11 v2 r11 x12 r11 (decide (r11 < 0)) x12 (decide ((1048576 : Int) < x12)) i7 l8 l9)
   (
    let x13 : Int := IntKind.i64.wrap (v5 + 1)
    again v1 x12 v3 v4 x13))) none) none) none) none)
 (
  k2 v1 v2 v3 v4 v5)
noncomputable def lpDSize_8 (rk : Nat) (k0 : Int -> Int -> Int -> (List CV) -> Int -> Int -> (List CV) -> Nat -> Int -> (List Int) -> (List CV) -> Int -> (List Int) -> (List CV) -> Int -> Int -> Int -> Int -> Int -> Int -> Int -> Bool -> Int -> (List Int) -> (List CV) -> Option Out) (k1 : Int -> Int -> Int -> (List CV) -> Int -> Int -> (List CV) -> Nat -> Int -> (List Int) -> (List CV) -> Int -> (List Int) -> (List CV) -> Int -> Int -> Int -> Int -> Int -> Int -> Int -> Bool -> Int -> Bool -> Int -> (List Int) -> (List CV) -> Option Out) (k2 : Int -> Int -> (List CV) -> Int -> Int -> Option Out) : Nat -> Int -> Int -> (List CV) -> Int -> Int -> Option Out
 | 0 => fun _ _ _ _ _ => none
 | n + 1 => lpDSize_8s rk (lpDSize_8 rk k0 k1 k2 n) k0 k1 k2
noncomputable def LDSize_8 (rk : Nat) : St -> (Ex -> St -> Option Out) -> Option Out := fun σ k => match σ with
 | ⟨[(q1, .cl (.int .i64 v1)), (q2, .cl (.int .i64 v2)), (q3, .cl (.slg q4 v3)), (q5, .cl (.int .i64 v4)), (q6, .cl (.int .i64 v5))], []⟩ => cond (Nat.beq q1 1 && Nat.beq q2 5 && Nat.beq q3 26 && Nat.beq q4 3 && Nat.beq q5 27 && Nat.beq q6 28) (shut (lpDSize_8 rk (fun y1 y2 y3 y4 y5 y6 y7 y8 y9 y10 y11 y12 y13 y14 y15 y16 y17 y18 y19 y20 y21 y22 y23 y24 y25 => k .ret ⟨[(1, .cl (.int .i64 y1)), (4, .cl (.int .i64 (-1))), (5, .cl (.int .i64 y2)), (7, .ptr 71 0 0), (8, .cl (.int .i64 y3)), (26, .cl (.slg 3 y4)), (27, .cl (.int .i64 y5)), (28, .cl (.int .i64 y6)), (29, .cl (.bool true)), (30, .cl (.vp (.slg 3 y7) y8 0)), (31, .cl (.agg [.int .i64 y9, .sli .u8 y10, .slg 3 y11])), (32, .cl (.agg [.int .i64 y12, .sli .u8 y13, .slg 3 y14])), (33, .cl (.int .i64 y15)), (34, .cl (.int .i64 y16)), (35, .cl (.int .i64 y17)), (36, .cl (.int .i64 y18)), (37, .cl (.int .i64 y19)), (38, .cl (.int .i64 y20)), (39, .cl (.int .i64 y21)), (40, .cl (.bool y22)), (41, .cl (.bool true)), (42, .tup []), (43, .tup []), (44, .cl (.bool true))], [(71, ⟨.var [.cl (.int .i64 y23), .cl (.sli .u8 y24), .cl (.slg 3 y25)], false⟩)]⟩) (fun y1 y2 y3 y4 y5 y6 y7 y8 y9 y10 y11 y12 y13 y14 y15 y16 y17 y18 y19 y20 y21 y22 y23 y24 y25 y26 y27 => k .ret ⟨[(1, .cl (.int .i64 y1)), (4, .cl (.int .i64 (-1))), (5, .cl (.int .i64 y2)), (7, .ptr 71 0 0), (8, .cl (.int .i64 y3)), (26, .cl (.slg 3 y4)), (27, .cl (.int .i64 y5)), (28, .cl (.int .i64 y6)), (29, .cl (.bool true)), (30, .cl (.vp (.slg 3 y7) y8 0)), (31, .cl (.agg [.int .i64 y9, .sli .u8 y10, .slg 3 y11])), (32, .cl (.agg [.int .i64 y12, .sli .u8 y13, .slg 3 y14])), (33, .cl (.int .i64 y15)), (34, .cl (.int .i64 y16)), (35, .cl (.int .i64 y17)), (36, .cl (.int .i64 y18)), (37, .cl (.int .i64 y19)), (38, .cl (.int .i64 y20)), (39, .cl (.int .i64 y21)), (40, .cl (.bool y22)), (41, .cl (.bool false)), (42, .cl (.int .i64 y23)), (43, .cl (.bool y24)), (44, .cl (.bool true))], [(71, ⟨.var [.cl (.int .i64 y25), .cl (.sli .u8 y26), .cl (.slg 3 y27)], false⟩)]⟩) (fun y1 y2 y3 y4 y5 => k (.exit 0) ⟨[(1, .cl (.int .i64 y1)), (5, .cl (.int .i64 y2)), (26, .cl (.slg 3 y3)), (27, .cl (.int .i64 y4)), (28, .cl (.int .i64 y5)), (29, .cl (.bool false))], []⟩) FUEL) v1 v2 v3 v4 v5) none
 | _ => none
noncomputable def EDSize (rk : Nat) : Env := {
 orc := fun g => cond (Nat.beq g 29) (SDBoxed) (cond (Nat.beq g 57) (SDSize) (cond (Nat.beq g 64) (SDKnown) (cond (Nat.beq g 65) (SDFits) (cond (Nat.beq g 66) (SDLenSize) (fun _ _ => Tree.fail)))))
 pre := fun g => cond (Nat.beq g 29) (preDBoxed) (cond (Nat.beq g 57) (preRDSize (rk)) (cond (Nat.beq g 64) (preDKnown) (cond (Nat.beq g 65) (preDFits) (cond (Nat.beq g 66) (preDLenSize) (fun _ _ => true)))))
 byref := fun _ => []
 keep := fun _ => false
 live := fun r => cond (Nat.beq r 8) ([1, 5, 26, 27, 28]) ([])
 ren := fun _ => []
 glob := glVal
 nt := 67
 lp := fun r => cond (Nat.beq r 8) (some (LDSize_8 rk)) (none)
}
noncomputable def blpDSize_8 : Code := (Cd.fst (Cd.fst (Cd.snd (Cd.snd (Cd.fst (Cd.snd (Cd.fst (Cd.snd (Cd.snd (Cd.snd (Tryd.f57.body.getD .skip)))))))))))
theorem lpDSize_8_step (rk : Nat) (k : Ex -> St -> Option Out) (n : Nat) (v1 : Int) (v2 : Int) (v3 : List CV) (v4 : Int) (v5 : Int) : iterK (n + 1) (codeK Tryd.prog (EDSize rk) 40 blpDSize_8) (head (EDSize rk) 8) ⟨[(1, .cl (.int .i64 v1)), (5, .cl (.int .i64 v2)), (26, .cl (.slg 3 v3)), (27, .cl (.int .i64 v4)), (28, .cl (.int .i64 v5))], []⟩ k = lpDSize_8s rk (fun v1 v2 v3 v4 v5 => iterK n (codeK Tryd.prog (EDSize rk) 40 blpDSize_8) (head (EDSize rk) 8) ⟨[(1, .cl (.int .i64 v1)), (5, .cl (.int .i64 v2)), (26, .cl (.slg 3 v3)), (27, .cl (.int .i64 v4)), (28, .cl (.int .i64 v5))], []⟩ k) (fun y1 y2 y3 y4 y5 y6 y7 y8 y9 y10 y11 y12 y13 y14 y15 y16 y17 y18 y19 y20 y21 y22 y23 y24 y25 => k .ret ⟨[(1, .cl (.int .i64 y1)), (4, .cl (.int .i64 (-1))), (5, .cl (.int .i64 y2)), (7, .ptr 71 0 0), (8, .cl (.int .i64 y3)), (26, .cl (.slg 3 y4)), (27, .cl (.int .i64 y5)), (28, .cl (.int .i64 y6)), (29, .cl (.bool true)), (30, .cl (.vp (.slg 3 y7) y8 0)), (31, .cl (.agg [.int .i64 y9, .sli .u8 y10, .slg 3 y11])), (32, .cl (.agg [.int .i64 y12, .sli .u8 y13, .slg 3 y14])), (33, .cl (.int .i64 y15)), (34, .cl (.int .i64 y16)), (35, .cl (.int .i64 y17)), (36, .cl (.int .i64 y18)), (37, .cl (.int .i64 y19)), (38, .cl (.int .i64 y20)), (39, .cl (.int .i64 y21)), (40, .cl (.bool y22)), (41, .cl (.bool true)), (42, .tup []), (43, .tup []), (44, .cl (.bool true))], [(71, ⟨.var [.cl (.int .i64 y23), .cl (.sli .u8 y24), .cl (.slg 3 y25)], false⟩)]⟩) (fun y1 y2 y3 y4 y5 y6 y7 y8 y9 y10 y11 y12 y13 y14 y15 y16 y17 y18 y19 y20 y21 y22 y23 y24 y25 y26 y27 => k .ret ⟨[(1, .cl (.int .i64 y1)), (4, .cl (.int .i64 (-1))), (5, .cl (.int .i64 y2)), (7, .ptr 71 0 0), (8, .cl (.int .i64 y3)), (26, .cl (.slg 3 y4)), (27, .cl (.int .i64 y5)), (28, .cl (.int .i64 y6)), (29, .cl (.bool true)), (30, .cl (.vp (.slg 3 y7) y8 0)), (31, .cl (.agg [.int .i64 y9, .sli .u8 y10, .slg 3 y11])), (32, .cl (.agg [.int .i64 y12, .sli .u8 y13, .slg 3 y14])), (33, .cl (.int .i64 y15)), (34, .cl (.int .i64 y16)), (35, .cl (.int .i64 y17)), (36, .cl (.int .i64 y18)), (37, .cl (.int .i64 y19)), (38, .cl (.int .i64 y20)), (39, .cl (.int .i64 y21)), (40, .cl (.bool y22)), (41, .cl (.bool false)), (42, .cl (.int .i64 y23)), (43, .cl (.bool y24)), (44, .cl (.bool true))], [(71, ⟨.var [.cl (.int .i64 y25), .cl (.sli .u8 y26), .cl (.slg 3 y27)], false⟩)]⟩) (fun y1 y2 y3 y4 y5 => k (.exit 0) ⟨[(1, .cl (.int .i64 y1)), (5, .cl (.int .i64 y2)), (26, .cl (.slg 3 y3)), (27, .cl (.int .i64 y4)), (28, .cl (.int .i64 y5)), (29, .cl (.bool false))], []⟩) v1 v2 v3 v4 v5 := by kernel_rfl
theorem lpDSize_8_eq (rk : Nat) (k : Ex -> St -> Option Out) : ∀ (n : Nat), ∀ (v1 : Int) (v2 : Int) (v3 : List CV) (v4 : Int) (v5 : Int), iterK n (codeK Tryd.prog (EDSize rk) 40 blpDSize_8) (head (EDSize rk) 8) ⟨[(1, .cl (.int .i64 v1)), (5, .cl (.int .i64 v2)), (26, .cl (.slg 3 v3)), (27, .cl (.int .i64 v4)), (28, .cl (.int .i64 v5))], []⟩ k = lpDSize_8 rk (fun y1 y2 y3 y4 y5 y6 y7 y8 y9 y10 y11 y12 y13 y14 y15 y16 y17 y18 y19 y20 y21 y22 y23 y24 y25 => k .ret ⟨[(1, .cl (.int .i64 y1)), (4, .cl (.int .i64 (-1))), (5, .cl (.int .i64 y2)), (7, .ptr 71 0 0), (8, .cl (.int .i64 y3)), (26, .cl (.slg 3 y4)), (27, .cl (.int .i64 y5)), (28, .cl (.int .i64 y6)), (29, .cl (.bool true)), (30, .cl (.vp (.slg 3 y7) y8 0)), (31, .cl (.agg [.int .i64 y9, .sli .u8 y10, .slg 3 y11])), (32, .cl (.agg [.int .i64 y12, .sli .u8 y13, .slg 3 y14])), (33, .cl (.int .i64 y15)), (34, .cl (.int .i64 y16)), (35, .cl (.int .i64 y17)), (36, .cl (.int .i64 y18)), (37, .cl (.int .i64 y19)), (38, .cl (.int .i64 y20)), (39, .cl (.int .i64 y21)), (40, .cl (.bool y22)), (41, .cl (.bool true)), (42, .tup []), (43, .tup []), (44, .cl (.bool true))], [(71, ⟨.var [.cl (.int .i64 y23), .cl (.sli .u8 y24), .cl (.slg 3 y25)], false⟩)]⟩) (fun y1 y2 y3 y4 y5 y6 y7 y8 y9 y10 y11 y12 y13 y14 y15 y16 y17 y18 y19 y20 y21 y22 y23 y24 y25 y26 y27 => k .ret ⟨[(1, .cl (.int .i64 y1)), (4, .cl (.int .i64 (-1))), (5, .cl (.int .i64 y2)), (7, .ptr 71 0 0), (8, .cl (.int .i64 y3)), (26, .cl (.slg 3 y4)), (27, .cl (.int .i64 y5)), (28, .cl (.int .i64 y6)), (29, .cl (.bool true)), (30, .cl (.vp (.slg 3 y7) y8 0)), (31, .cl (.agg [.int .i64 y9, .sli .u8 y10, .slg 3 y11])), (32, .cl (.agg [.int .i64 y12, .sli .u8 y13, .slg 3 y14])), (33, .cl (.int .i64 y15)), (34, .cl (.int .i64 y16)), (35, .cl (.int .i64 y17)), (36, .cl (.int .i64 y18)), (37, .cl (.int .i64 y19)), (38, .cl (.int .i64 y20)), (39, .cl (.int .i64 y21)), (40, .cl (.bool y22)), (41, .cl (.bool false)), (42, .cl (.int .i64 y23)), (43, .cl (.bool y24)), (44, .cl (.bool true))], [(71, ⟨.var [.cl (.int .i64 y25), .cl (.sli .u8 y26), .cl (.slg 3 y27)], false⟩)]⟩) (fun y1 y2 y3 y4 y5 => k (.exit 0) ⟨[(1, .cl (.int .i64 y1)), (5, .cl (.int .i64 y2)), (26, .cl (.slg 3 y3)), (27, .cl (.int .i64 y4)), (28, .cl (.int .i64 y5)), (29, .cl (.bool false))], []⟩) n v1 v2 v3 v4 v5
 | 0 => by intros; rfl
 | n + 1 => by
  intros
  rw [lpDSize_8_step]
  have ih := lpDSize_8_eq rk k n
  simp only [lpDSize_8, ih]
theorem LDSize_8_ok (rk : Nat) : ∀ (σ : St) (k : Ex -> St -> Option Out) (r : Out), LDSize_8 rk σ k = some r -> ∃ n, iterK n (codeK Tryd.prog (EDSize rk) 40 blpDSize_8) (head (EDSize rk) 8) σ k = some r := by
 intro σ k r h
 unfold LDSize_8 at h
 split at h
 ·replace h := cond_some h
  obtain ⟨hc, h⟩ := h
  simp only [Bool.and_eq_true, beq_prop, decide_eq_true_eq, Bool.not_eq_true'] at hc
  obtain ⟨⟨⟨⟨⟨rfl, rfl⟩, rfl⟩, rfl⟩, rfl⟩, rfl⟩ := hc
  rw [shut_eq] at h
  exact ⟨FUEL, (lpDSize_8_eq rk k FUEL _ _ _ _ _ ).trans h⟩
 ·cases h
theorem loopsDSize (rk : Nat) : ∀ c, Tryd.f57.body = some c -> LoopsOk Tryd.prog (EDSize rk) 40 c := by
 intro c hc
 cases hc
 exact ⟨trivial, ⟨⟨trivial, ⟨⟨trivial, trivial, jn_none rfl⟩, trivial, jn_none rfl⟩, jn_none rfl⟩, ⟨trivial, ⟨⟨trivial, ⟨⟨⟨trivial, ⟨⟨trivial, trivial, jn_none rfl⟩, trivial, jn_none rfl⟩, jn_none rfl⟩, ⟨trivial, ⟨⟨trivial, ⟨⟨trivial, trivial, jn_none rfl⟩, ⟨⟨trivial, ⟨trivial, ⟨trivial, ⟨trivial, ⟨⟨trivial, trivial, jn_none rfl⟩, trivial, jn_none rfl⟩, jn_none rfl⟩, jn_none rfl⟩, jn_none rfl⟩, jn_none rfl⟩, trivial, jn_none rfl⟩, jn_none rfl⟩, jn_none rfl⟩, lp_some rfl (LDSize_8_ok rk)⟩, jn_none rfl⟩, jn_none rfl⟩, ⟨trivial, ⟨⟨trivial, trivial, jn_none rfl⟩, trivial, jn_none rfl⟩, jn_none rfl⟩, jn_none rfl⟩, jn_none rfl⟩, ⟨trivial, trivial, jn_none rfl⟩, jn_none rfl⟩, jn_none rfl⟩, jn_none rfl⟩, jn_none rfl⟩
noncomputable def gDSize (rk : Nat) (ta : Int) (ba : List Int) (ka : List CV) (deep : Int) : Option Out :=
 cond (decide (deep = 0)) (
  some (.ret [.cl (.int .i64 (-1))] []))
 (
  let r1 : Bool := derKnown ta
  cond (!r1) (
   some (.ret [.cl (.int .i64 (-1))] []))
  (
   let r2 : Bool := derBoxed ta
   cond (r2) (
    cond (decide ((0 : Int) < ((ba.length : Nat) : Int))) (
     some (.ret [.cl (.int .i64 (-1))] []))
    (
     shut (lpDSize_8 rk
     (fun (y3 : Int) (y4 : Int) (y5 : Int) (y6 : List CV) (y7 : Int) (y8 : Int) (y9 : List CV) (y10 : Nat) (y11 : Int) (y12 : List Int) (y13 : List CV) (y14 : Int) (y15 : List Int) (y16 : List CV) (y17 : Int) (y18 : Int) (y19 : Int) (y20 : Int) (y21 : Int) (y22 : Int) (y23 : Int) (y24 : Bool) (y25 : Int) (y26 : List Int) (y27 : List CV) =>
      some (.ret [.cl (.int .i64 (-1))] []))
     (fun (y28 : Int) (y29 : Int) (y30 : Int) (y31 : List CV) (y32 : Int) (y33 : Int) (y34 : List CV) (y35 : Nat) (y36 : Int) (y37 : List Int) (y38 : List CV) (y39 : Int) (y40 : List Int) (y41 : List CV) (y42 : Int) (y43 : Int) (y44 : Int) (y45 : Int) (y46 : Int) (y47 : Int) (y48 : Int) (y49 : Bool) (y50 : Int) (y51 : Bool) (y52 : Int) (y53 : List Int) (y54 : List CV) =>
      some (.ret [.cl (.int .i64 (-1))] []))
     (fun (y55 : Int) (y56 : Int) (y57 : List CV) (y58 : Int) (y59 : Int) =>
      let r60 : Int := derLenSize y56
      let x61 : Int := IntKind.i64.wrap ((1 : Int) + r60)
      let x62 : Int := IntKind.i64.wrap (x61 + y56)
      some (.ret [.cl (.int .i64 x62)] []))
     FUEL) deep ((ba.length : Nat) : Int) ka ((ka.length : Nat) : Int) 0))
   (
    cond (decide ((0 : Int) < ((ka.length : Nat) : Int))) (
     some (.ret [.cl (.int .i64 (-1))] []))
    (
     cond (decide ((1048576 : Int) < ((ba.length : Nat) : Int))) (
      some (.ret [.cl (.int .i64 (-1))] []))
     (
      cond (bytesOk ba) (
      let r63 : Bool := derFits ta ba
      cond (!r63) (
       some (.ret [.cl (.int .i64 (-1))] []))
      (
       let r64 : Int := derLenSize ((ba.length : Nat) : Int)
       let x65 : Int := IntKind.i64.wrap ((1 : Int) + r64)
       let x66 : Int := IntKind.i64.wrap (x65 + ((ba.length : Nat) : Int))
       some (.ret [.cl (.int .i64 x66)] []))) none)))))
theorem gDSize_eq (rk : Nat) (ta : Int) (ba : List Int) (ka : List CV) (deep : Int) : bodyK Tryd.prog (EDSize rk) 40 false Tryd.f57 [.cl (.agg [.int .i64 ta, .sli .u8 ba, .slg 3 ka]), .cl (.int .i64 deep)] [] = gDSize rk ta ba ka deep := by kernel_rfl
end Go.Proofs.YtfkpjbbkdkcdcabDoorA

namespace Go.Proofs.YtfkpjbbkdkcdcabDoorA
noncomputable def lpDPut_7s (again : Nat -> Int -> Int -> (List Int) -> Option Out) (k0 : Nat -> Int -> Int -> Int -> (List Int) -> Option Out) (v1 : Nat) (v2 : Int) (v3 : Int) (v4 : List Int) : Option Out :=
 cond (decide ((0 : Int) <= v3)) (
  let x8 : Int := IntKind.i64.wrap ((8 : Int) * v3)
  cond (decide (x8 < 0)) none (
  let x9 : Int := Int.fdiv v2 (2 ^ (min x8.toNat 64))
  let x10 : Int := IntKind.u8.wrap x9
  let l11 : List Int := v4 ++ [x10]
  cond (Nat.ble (l11.length * 1) LIMN) (
  cond (Nat.ble l11.length LIMN) (
  let x12 : Int := IntKind.i64.wrap (v3 - 1)
  again l11.length v2 x12 l11) none) none))
 (
  k0 v1 v2 v3 v3 v4)
noncomputable def lpDPut_7 (k0 : Nat -> Int -> Int -> Int -> (List Int) -> Option Out) : Nat -> Nat -> Int -> Int -> (List Int) -> Option Out
 | 0 => fun _ _ _ _ => none
 | n + 1 => lpDPut_7s (lpDPut_7 k0 n) k0
noncomputable def LDPut_7 : St -> (Ex -> St -> Option Out) -> Option Out := fun σ k => match σ with
 | ⟨[(q1, .ref q2 q3 v1 true q4), (q5, .cl (.int .i64 v2)), (q6, .cl (.int .i64 v3))], [(q7, ⟨.ints .u8 v4, false⟩)]⟩ => cond (Nat.beq q1 0 && Nat.beq q2 93 && Nat.beq q3 0 && Nat.beq q4 1 && Nat.beq q5 2 && Nat.beq q6 8 && Nat.beq q7 93) (shut (lpDPut_7 (fun y1 y2 y3 y4 y5 => k (.exit 0) ⟨[(0, .ref 93 0 y1 true 1), (2, .cl (.int .i64 y2)), (8, .cl (.int .i64 y3)), (32, .cl (.int .i64 y4)), (33, .cl (.bool false))], [(93, ⟨.ints .u8 y5, false⟩)]⟩) FUEL) v1 v2 v3 v4) none
 | _ => none
noncomputable def EDPut : Env := {
 orc := fun g => cond (Nat.beq g 66) (SDLenSize) (fun _ _ => Tree.fail)
 pre := fun g => cond (Nat.beq g 66) (preDLenSize) (fun _ _ => true)
 byref := fun _ => []
 keep := fun _ => false
 live := fun r => cond (Nat.beq r 7) ([0, 2, 8]) ([])
 ren := fun r => cond (Nat.beq r 7) ([(107, 93)]) ([])
 glob := glVal
 nt := 45
 lp := fun r => cond (Nat.beq r 7) (some (LDPut_7)) (none)
}
noncomputable def blpDPut_7 : Code := (Cd.fst (Cd.fst (Cd.snd (Cd.fst (Cd.snd (Cd.snd (Cd.snd (Cd.snd (Cd.snd (Tryd.f67.body.getD .skip))))))))))
theorem lpDPut_7_step (k : Ex -> St -> Option Out) (n : Nat) (v1 : Nat) (v2 : Int) (v3 : Int) (v4 : List Int) : iterK (n + 1) (codeK Tryd.prog (EDPut) 40 blpDPut_7) (head (EDPut) 7) ⟨[(0, .ref 93 0 v1 true 1), (2, .cl (.int .i64 v2)), (8, .cl (.int .i64 v3))], [(93, ⟨.ints .u8 v4, false⟩)]⟩ k = lpDPut_7s (fun v1 v2 v3 v4 => iterK n (codeK Tryd.prog (EDPut) 40 blpDPut_7) (head (EDPut) 7) ⟨[(0, .ref 93 0 v1 true 1), (2, .cl (.int .i64 v2)), (8, .cl (.int .i64 v3))], [(93, ⟨.ints .u8 v4, false⟩)]⟩ k) (fun y1 y2 y3 y4 y5 => k (.exit 0) ⟨[(0, .ref 93 0 y1 true 1), (2, .cl (.int .i64 y2)), (8, .cl (.int .i64 y3)), (32, .cl (.int .i64 y4)), (33, .cl (.bool false))], [(93, ⟨.ints .u8 y5, false⟩)]⟩) v1 v2 v3 v4 := by kernel_rfl
theorem lpDPut_7_eq (k : Ex -> St -> Option Out) : ∀ (n : Nat), ∀ (v1 : Nat) (v2 : Int) (v3 : Int) (v4 : List Int), iterK n (codeK Tryd.prog (EDPut) 40 blpDPut_7) (head (EDPut) 7) ⟨[(0, .ref 93 0 v1 true 1), (2, .cl (.int .i64 v2)), (8, .cl (.int .i64 v3))], [(93, ⟨.ints .u8 v4, false⟩)]⟩ k = lpDPut_7 (fun y1 y2 y3 y4 y5 => k (.exit 0) ⟨[(0, .ref 93 0 y1 true 1), (2, .cl (.int .i64 y2)), (8, .cl (.int .i64 y3)), (32, .cl (.int .i64 y4)), (33, .cl (.bool false))], [(93, ⟨.ints .u8 y5, false⟩)]⟩) n v1 v2 v3 v4
 | 0 => by intros; rfl
 | n + 1 => by
  intros
  rw [lpDPut_7_step]
  have ih := lpDPut_7_eq k n
  simp only [lpDPut_7, ih]
theorem LDPut_7_ok : ∀ (σ : St) (k : Ex -> St -> Option Out) (r : Out), LDPut_7 σ k = some r -> ∃ n, iterK n (codeK Tryd.prog (EDPut) 40 blpDPut_7) (head (EDPut) 7) σ k = some r := by
 intro σ k r h
 unfold LDPut_7 at h
 split at h
 ·replace h := cond_some h
  obtain ⟨hc, h⟩ := h
  simp only [Bool.and_eq_true, beq_prop, decide_eq_true_eq, Bool.not_eq_true'] at hc
  obtain ⟨⟨⟨⟨⟨⟨rfl, rfl⟩, rfl⟩, rfl⟩, rfl⟩, rfl⟩, rfl⟩ := hc
  rw [shut_eq] at h
  exact ⟨FUEL, (lpDPut_7_eq k FUEL _ _ _ _ ).trans h⟩
 ·cases h
theorem loopsDPut : ∀ c, Tryd.f67.body = some c -> LoopsOk Tryd.prog (EDPut) 40 c := by
 intro c hc
 cases hc
 exact ⟨trivial, ⟨trivial, ⟨trivial, ⟨⟨trivial, ⟨⟨trivial, trivial, jn_none rfl⟩, trivial, jn_none rfl⟩, jn_none rfl⟩, ⟨trivial, ⟨⟨trivial, ⟨⟨⟨trivial, ⟨trivial, trivial, jn_none rfl⟩, jn_none rfl⟩, ⟨trivial, trivial, jn_none rfl⟩, jn_none rfl⟩, lp_some rfl (LDPut_7_ok)⟩, jn_none rfl⟩, ⟨trivial, trivial, jn_none rfl⟩, jn_none rfl⟩, jn_none rfl⟩, jn_none rfl⟩, jn_none rfl⟩, jn_none rfl⟩, jn_none rfl⟩
noncomputable def gDPut (tag : Int) (n : Int) : Option Out :=
 let x1 : Int := IntKind.u8.wrap tag
 let r2 : Int := derLenSize n
 let x3 : Int := IntKind.i64.wrap (r2 - 1)
 cond (decide (x3 = 0)) (
  let x4 : Int := IntKind.u8.wrap n
  some (.ret [.ref 0 0 2 true 1] [some ⟨.ints .u8 [x1, x4], false⟩]))
 (
  let x5 : Int := IntKind.i64.wrap ((128 : Int) + x3)
  let x6 : Int := IntKind.u8.wrap x5
  let x7 : Int := IntKind.i64.wrap (x3 - 1)
  shut (lpDPut_7
  (fun (y8 : Nat) (y9 : Int) (y10 : Int) (y11 : Int) (y12 : List Int) =>
   some (.ret [.ref 0 0 y8 true 1] [some ⟨.ints .u8 y12, false⟩]))
  FUEL) 2 n x7 [x1, x6])
theorem gDPut_eq (tag : Int) (n : Int) : bodyK Tryd.prog (EDPut) 40 true Tryd.f67 [.nils, .cl (.int .i64 tag), .cl (.int .i64 n)] [] = gDPut tag n := by kernel_rfl
end Go.Proofs.YtfkpjbbkdkcdcabDoorA

namespace Go.Proofs.YtfkpjbbkdkcdcabDoorA
noncomputable def lpSConcat_3s (again : (List CV) -> Int -> (List CV) -> Int -> Int -> Option Out) (k0 : ByteArray -> (List CV) -> Int -> (List Int) -> (List CV) -> Int -> Int -> (List CV) -> Nat -> (List Int) -> Int -> (List Int) -> Int -> Int -> Int -> ByteArray -> Option Out) (k1 : (List CV) -> Int -> (List CV) -> Int -> Int -> Option Out) (v1 : List CV) (v2 : Int) (v3 : List CV) (v4 : Int) (v5 : Int) : Option Out :=
 cond (decide (v5 < v4)) (
  cond (decide ((0 : Int) <= v5)) (
  cond (decide (v5 < ((v3.length : Nat) : Int))) (
  Option.bind (v3[(Int.toNat v5)]?) fun (e1 : CV) =>
  let e2 : CV := (cell1 e1).getD 0 .nili
  cond (okSli .u8 e2) (
  let l3 : List Int := cvSli e2
  let x4 : Int := IntKind.i64.wrap (v2 + ((l3.length : Nat) : Int))
  cond (decide (x4 < 0)) (
   k0 (⟨#[108, 101, 110, 32, 111, 117, 116, 32, 111, 102, 32, 114, 97, 110, 103, 101]⟩ : ByteArray) v1 x4 l3 v3 v4 v5 v3 (Int.toNat v5) l3 v2 l3 ((l3.length : Nat) : Int) x4 x4 (⟨#[108, 101, 110, 32, 111, 117, 116, 32, 111, 102, 32, 114, 97, 110, 103, 101]⟩ : ByteArray))
  (
   let x5 : Int := IntKind.i64.wrap (v5 + 1)
   again v1 x4 v3 v4 x5)) none) none) none)
 (
  k1 v1 v2 v3 v4 v5)
noncomputable def lpSConcat_3 (k0 : ByteArray -> (List CV) -> Int -> (List Int) -> (List CV) -> Int -> Int -> (List CV) -> Nat -> (List Int) -> Int -> (List Int) -> Int -> Int -> Int -> ByteArray -> Option Out) (k1 : (List CV) -> Int -> (List CV) -> Int -> Int -> Option Out) : Nat -> (List CV) -> Int -> (List CV) -> Int -> Int -> Option Out
 | 0 => fun _ _ _ _ _ => none
 | n + 1 => lpSConcat_3s (lpSConcat_3 k0 k1 n) k0 k1
noncomputable def lpSConcat_11s (again : Nat -> (List CV) -> Int -> Int -> (List Int) -> Option Out) (k0 : Nat -> (List CV) -> Int -> Int -> (List Int) -> Option Out) (v1 : Nat) (v2 : List CV) (v3 : Int) (v4 : Int) (v5 : List Int) : Option Out :=
 cond (decide (v4 < v3)) (
  cond (decide ((0 : Int) <= v4)) (
  cond (decide (v4 < ((v2.length : Nat) : Int))) (
  Option.bind (v2[(Int.toNat v4)]?) fun (e23 : CV) =>
  let e24 : CV := (cell1 e23).getD 0 .nili
  cond (okSli .u8 e24) (
  let l25 : List Int := cvSli e24
  let l26 : List Int := v5 ++ l25
  cond (Nat.ble (l26.length * 1) LIMN) (
  cond (Nat.ble l26.length LIMN) (
  let x27 : Int := IntKind.i64.wrap (v4 + 1)
  again l26.length v2 v3 x27 l26) none) none) none) none) none)
 (
  k0 v1 v2 v3 v4 v5)
noncomputable def lpSConcat_11 (k0 : Nat -> (List CV) -> Int -> Int -> (List Int) -> Option Out) : Nat -> Nat -> (List CV) -> Int -> Int -> (List Int) -> Option Out
 | 0 => fun _ _ _ _ _ => none
 | n + 1 => lpSConcat_11s (lpSConcat_11 k0 n) k0
noncomputable def LSConcat_3 : St -> (Ex -> St -> Option Out) -> Option Out := fun σ k => match σ with
 | ⟨[(q1, .cl (.slg q2 v1)), (q3, .cl (.int .i64 v2)), (q4, .cl (.slg q5 v3)), (q6, .cl (.int .i64 v4)), (q7, .cl (.int .i64 v5))], []⟩ => cond (Nat.beq q1 0 && Nat.beq q2 1 && Nat.beq q3 3 && Nat.beq q4 9 && Nat.beq q5 1 && Nat.beq q6 10 && Nat.beq q7 11) (shut (lpSConcat_3 (fun y1 y2 y3 y4 y5 y6 y7 y8 y9 y10 y11 y12 y13 y14 y15 y16 => k (.pan (.iface 9 (.str y1))) ⟨[(0, .cl (.slg 1 y2)), (3, .cl (.int .i64 y3)), (5, .cl (.sli .u8 y4)), (9, .cl (.slg 1 y5)), (10, .cl (.int .i64 y6)), (11, .cl (.int .i64 y7)), (12, .cl (.bool true)), (13, .cl (.vp (.slg 1 y8) y9 0)), (14, .cl (.sli .u8 y10)), (15, .cl (.int .i64 y11)), (16, .cl (.sli .u8 y12)), (17, .cl (.int .i64 y13)), (18, .cl (.int .i64 y14)), (19, .cl (.int .i64 y15)), (20, .cl (.bool true)), (21, .cl (.iface 9 (.str y16)))], []⟩) (fun y1 y2 y3 y4 y5 => k (.exit 0) ⟨[(0, .cl (.slg 1 y1)), (3, .cl (.int .i64 y2)), (9, .cl (.slg 1 y3)), (10, .cl (.int .i64 y4)), (11, .cl (.int .i64 y5)), (12, .cl (.bool false))], []⟩) FUEL) v1 v2 v3 v4 v5) none
 | _ => none
noncomputable def LSConcat_11 : St -> (Ex -> St -> Option Out) -> Option Out := fun σ k => match σ with
 | ⟨[(q1, .ref q2 q3 v1 true q4), (q5, .cl (.slg q6 v2)), (q7, .cl (.int .i64 v3)), (q8, .cl (.int .i64 v4))], [(q9, ⟨.ints .u8 v5, false⟩)]⟩ => cond (Nat.beq q1 6 && Nat.beq q2 88 && Nat.beq q3 0 && Nat.beq q4 1 && Nat.beq q5 25 && Nat.beq q6 1 && Nat.beq q7 26 && Nat.beq q8 27 && Nat.beq q9 88) (shut (lpSConcat_11 (fun y1 y2 y3 y4 y5 => k (.exit 2) ⟨[(6, .ref 88 0 y1 true 1), (25, .cl (.slg 1 y2)), (26, .cl (.int .i64 y3)), (27, .cl (.int .i64 y4)), (28, .cl (.bool false))], [(88, ⟨.ints .u8 y5, false⟩)]⟩) FUEL) v1 v2 v3 v4 v5) none
 | _ => none
noncomputable def ESConcat : Env := {
 orc := fun g => cond (Nat.beq g 78) (SSGrow) (fun _ _ => Tree.fail)
 pre := fun g => cond (Nat.beq g 78) (preSGrow) (fun _ _ => true)
 byref := fun g => cond (Nat.beq g 78) ([0]) ([])
 keep := fun g => cond (Nat.beq g 78) (true) (false)
 live := fun r => cond (Nat.beq r 3) ([0, 3, 9, 10, 11]) (cond (Nat.beq r 11) ([6, 25, 26, 27]) ([]))
 ren := fun r => cond (Nat.beq r 11) ([(97, 88)]) ([])
 glob := glVal
 nt := 36
 lp := fun r => cond (Nat.beq r 3) (some (LSConcat_3)) (cond (Nat.beq r 11) (some (LSConcat_11)) (none))
}
noncomputable def blpSConcat_3 : Code := (Cd.fst (Cd.fst (Cd.snd (Cd.fst (Cd.snd (Cd.snd (Tryd.f69.body.getD .skip)))))))
theorem lpSConcat_3_step (k : Ex -> St -> Option Out) (n : Nat) (v1 : List CV) (v2 : Int) (v3 : List CV) (v4 : Int) (v5 : Int) : iterK (n + 1) (codeK Tryd.prog (ESConcat) 40 blpSConcat_3) (head (ESConcat) 3) ⟨[(0, .cl (.slg 1 v1)), (3, .cl (.int .i64 v2)), (9, .cl (.slg 1 v3)), (10, .cl (.int .i64 v4)), (11, .cl (.int .i64 v5))], []⟩ k = lpSConcat_3s (fun v1 v2 v3 v4 v5 => iterK n (codeK Tryd.prog (ESConcat) 40 blpSConcat_3) (head (ESConcat) 3) ⟨[(0, .cl (.slg 1 v1)), (3, .cl (.int .i64 v2)), (9, .cl (.slg 1 v3)), (10, .cl (.int .i64 v4)), (11, .cl (.int .i64 v5))], []⟩ k) (fun y1 y2 y3 y4 y5 y6 y7 y8 y9 y10 y11 y12 y13 y14 y15 y16 => k (.pan (.iface 9 (.str y1))) ⟨[(0, .cl (.slg 1 y2)), (3, .cl (.int .i64 y3)), (5, .cl (.sli .u8 y4)), (9, .cl (.slg 1 y5)), (10, .cl (.int .i64 y6)), (11, .cl (.int .i64 y7)), (12, .cl (.bool true)), (13, .cl (.vp (.slg 1 y8) y9 0)), (14, .cl (.sli .u8 y10)), (15, .cl (.int .i64 y11)), (16, .cl (.sli .u8 y12)), (17, .cl (.int .i64 y13)), (18, .cl (.int .i64 y14)), (19, .cl (.int .i64 y15)), (20, .cl (.bool true)), (21, .cl (.iface 9 (.str y16)))], []⟩) (fun y1 y2 y3 y4 y5 => k (.exit 0) ⟨[(0, .cl (.slg 1 y1)), (3, .cl (.int .i64 y2)), (9, .cl (.slg 1 y3)), (10, .cl (.int .i64 y4)), (11, .cl (.int .i64 y5)), (12, .cl (.bool false))], []⟩) v1 v2 v3 v4 v5 := by kernel_rfl
theorem lpSConcat_3_eq (k : Ex -> St -> Option Out) : ∀ (n : Nat), ∀ (v1 : List CV) (v2 : Int) (v3 : List CV) (v4 : Int) (v5 : Int), iterK n (codeK Tryd.prog (ESConcat) 40 blpSConcat_3) (head (ESConcat) 3) ⟨[(0, .cl (.slg 1 v1)), (3, .cl (.int .i64 v2)), (9, .cl (.slg 1 v3)), (10, .cl (.int .i64 v4)), (11, .cl (.int .i64 v5))], []⟩ k = lpSConcat_3 (fun y1 y2 y3 y4 y5 y6 y7 y8 y9 y10 y11 y12 y13 y14 y15 y16 => k (.pan (.iface 9 (.str y1))) ⟨[(0, .cl (.slg 1 y2)), (3, .cl (.int .i64 y3)), (5, .cl (.sli .u8 y4)), (9, .cl (.slg 1 y5)), (10, .cl (.int .i64 y6)), (11, .cl (.int .i64 y7)), (12, .cl (.bool true)), (13, .cl (.vp (.slg 1 y8) y9 0)), (14, .cl (.sli .u8 y10)), (15, .cl (.int .i64 y11)), (16, .cl (.sli .u8 y12)), (17, .cl (.int .i64 y13)), (18, .cl (.int .i64 y14)), (19, .cl (.int .i64 y15)), (20, .cl (.bool true)), (21, .cl (.iface 9 (.str y16)))], []⟩) (fun y1 y2 y3 y4 y5 => k (.exit 0) ⟨[(0, .cl (.slg 1 y1)), (3, .cl (.int .i64 y2)), (9, .cl (.slg 1 y3)), (10, .cl (.int .i64 y4)), (11, .cl (.int .i64 y5)), (12, .cl (.bool false))], []⟩) n v1 v2 v3 v4 v5
 | 0 => by intros; rfl
 | n + 1 => by
  intros
  rw [lpSConcat_3_step]
  have ih := lpSConcat_3_eq k n
  simp only [lpSConcat_3, ih]
noncomputable def blpSConcat_11 : Code := (Cd.fst (Cd.fst (Cd.snd (Cd.fst (Cd.snd (Cd.snd (Cd.snd (Cd.snd (Tryd.f69.body.getD .skip)))))))))
theorem lpSConcat_11_step (k : Ex -> St -> Option Out) (n : Nat) (v1 : Nat) (v2 : List CV) (v3 : Int) (v4 : Int) (v5 : List Int) : iterK (n + 1) (codeK Tryd.prog (ESConcat) 40 blpSConcat_11) (head (ESConcat) 11) ⟨[(6, .ref 88 0 v1 true 1), (25, .cl (.slg 1 v2)), (26, .cl (.int .i64 v3)), (27, .cl (.int .i64 v4))], [(88, ⟨.ints .u8 v5, false⟩)]⟩ k = lpSConcat_11s (fun v1 v2 v3 v4 v5 => iterK n (codeK Tryd.prog (ESConcat) 40 blpSConcat_11) (head (ESConcat) 11) ⟨[(6, .ref 88 0 v1 true 1), (25, .cl (.slg 1 v2)), (26, .cl (.int .i64 v3)), (27, .cl (.int .i64 v4))], [(88, ⟨.ints .u8 v5, false⟩)]⟩ k) (fun y1 y2 y3 y4 y5 => k (.exit 2) ⟨[(6, .ref 88 0 y1 true 1), (25, .cl (.slg 1 y2)), (26, .cl (.int .i64 y3)), (27, .cl (.int .i64 y4)), (28, .cl (.bool false))], [(88, ⟨.ints .u8 y5, false⟩)]⟩) v1 v2 v3 v4 v5 := by kernel_rfl
theorem lpSConcat_11_eq (k : Ex -> St -> Option Out) : ∀ (n : Nat), ∀ (v1 : Nat) (v2 : List CV) (v3 : Int) (v4 : Int) (v5 : List Int), iterK n (codeK Tryd.prog (ESConcat) 40 blpSConcat_11) (head (ESConcat) 11) ⟨[(6, .ref 88 0 v1 true 1), (25, .cl (.slg 1 v2)), (26, .cl (.int .i64 v3)), (27, .cl (.int .i64 v4))], [(88, ⟨.ints .u8 v5, false⟩)]⟩ k = lpSConcat_11 (fun y1 y2 y3 y4 y5 => k (.exit 2) ⟨[(6, .ref 88 0 y1 true 1), (25, .cl (.slg 1 y2)), (26, .cl (.int .i64 y3)), (27, .cl (.int .i64 y4)), (28, .cl (.bool false))], [(88, ⟨.ints .u8 y5, false⟩)]⟩) n v1 v2 v3 v4 v5
 | 0 => by intros; rfl
 | n + 1 => by
  intros
  rw [lpSConcat_11_step]
  have ih := lpSConcat_11_eq k n
  simp only [lpSConcat_11, ih]
theorem LSConcat_3_ok : ∀ (σ : St) (k : Ex -> St -> Option Out) (r : Out), LSConcat_3 σ k = some r -> ∃ n, iterK n (codeK Tryd.prog (ESConcat) 40 blpSConcat_3) (head (ESConcat) 3) σ k = some r := by
 intro σ k r h
 unfold LSConcat_3 at h
 split at h
 ·replace h := cond_some h
  obtain ⟨hc, h⟩ := h
  simp only [Bool.and_eq_true, beq_prop, decide_eq_true_eq, Bool.not_eq_true'] at hc
  obtain ⟨⟨⟨⟨⟨⟨rfl, rfl⟩, rfl⟩, rfl⟩, rfl⟩, rfl⟩, rfl⟩ := hc
  rw [shut_eq] at h
  exact ⟨FUEL, (lpSConcat_3_eq k FUEL _ _ _ _ _ ).trans h⟩
 ·cases h
theorem LSConcat_11_ok : ∀ (σ : St) (k : Ex -> St -> Option Out) (r : Out), LSConcat_11 σ k = some r -> ∃ n, iterK n (codeK Tryd.prog (ESConcat) 40 blpSConcat_11) (head (ESConcat) 11) σ k = some r := by
 intro σ k r h
 unfold LSConcat_11 at h
 split at h
 ·replace h := cond_some h
  obtain ⟨hc, h⟩ := h
  simp only [Bool.and_eq_true, beq_prop, decide_eq_true_eq, Bool.not_eq_true'] at hc
  obtain ⟨⟨⟨⟨⟨⟨⟨⟨rfl, rfl⟩, rfl⟩, rfl⟩, rfl⟩, rfl⟩, rfl⟩, rfl⟩, rfl⟩ := hc
  rw [shut_eq] at h
  exact ⟨FUEL, (lpSConcat_11_eq k FUEL _ _ _ _ _ ).trans h⟩
 ·cases h
theorem loopsSConcat : ∀ c, Tryd.f69.body = some c -> LoopsOk Tryd.prog (ESConcat) 40 c := by
 intro c hc
 cases hc
 exact ⟨trivial, ⟨trivial, ⟨⟨trivial, ⟨⟨trivial, ⟨⟨trivial, trivial, jn_none rfl⟩, ⟨⟨trivial, ⟨trivial, ⟨trivial, ⟨trivial, trivial, jn_none rfl⟩, jn_none rfl⟩, jn_none rfl⟩, jn_none rfl⟩, trivial, jn_none rfl⟩, jn_none rfl⟩, jn_none rfl⟩, lp_some rfl (LSConcat_3_ok)⟩, jn_none rfl⟩, ⟨trivial, ⟨⟨trivial, ⟨⟨trivial, ⟨⟨trivial, trivial, jn_none rfl⟩, ⟨⟨trivial, trivial, jn_none rfl⟩, trivial, jn_none rfl⟩, jn_none rfl⟩, jn_none rfl⟩, lp_some rfl (LSConcat_11_ok)⟩, jn_none rfl⟩, ⟨trivial, trivial, jn_none rfl⟩, jn_none rfl⟩, jn_none rfl⟩, jn_none rfl⟩, jn_none rfl⟩, jn_none rfl⟩
noncomputable def gSConcat (l : List CV) : Option Out :=
 shut (lpSConcat_3
 (fun (y1 : ByteArray) (y2 : List CV) (y3 : Int) (y4 : List Int) (y5 : List CV) (y6 : Int) (y7 : Int) (y8 : List CV) (y9 : Nat) (y10 : List Int) (y11 : Int) (y12 : List Int) (y13 : Int) (y14 : Int) (y15 : Int) (y16 : ByteArray) =>
  some (.pan (.iface 9 (.str y1)) []))
 (fun (y17 : List CV) (y18 : Int) (y19 : List CV) (y20 : Int) (y21 : Int) =>
  cond (growOk y18) (
  let r22 : List Int := noInts
  shut (lpSConcat_11
  (fun (y23 : Nat) (y24 : List CV) (y25 : Int) (y26 : Int) (y27 : List Int) =>
   some (.ret [.cl (.sli .u8 y27)] []))
  FUEL) 0 y17 ((y17.length : Nat) : Int) 0 r22) none)
 FUEL) l 0 l ((l.length : Nat) : Int) 0
theorem gSConcat_eq (l : List CV) : bodyK Tryd.prog (ESConcat) 40 false Tryd.f69 [.cl (.slg 1 l)] [] = gSConcat l := by kernel_rfl
end Go.Proofs.YtfkpjbbkdkcdcabDoorA

namespace Go.Proofs.YtfkpjbbkdkcdcabDoorA
noncomputable def lpDWrite_6s (rk : Nat) (again : Nat -> Int -> (List CV) -> Int -> Int -> Int -> (List Int) -> (List CV) -> (List CV) -> Option Out) (k0 : Nat -> Int -> Int -> (List Int) -> Bool -> (List CV) -> Int -> Int -> Int -> (List CV) -> Nat -> Int -> (List Int) -> (List CV) -> (List Int) -> Bool -> Int -> (List Int) -> (List CV) -> (List Int) -> Bool -> (List Int) -> Bool -> Bool -> Int -> (List Int) -> (List CV) -> Int -> (List Int) -> (List CV) -> (List CV) -> Option Out) (k1 : Nat -> Int -> (List CV) -> Int -> Int -> Int -> (List Int) -> (List CV) -> (List CV) -> Option Out) (v1 : Nat) (v2 : Int) (v3 : List CV) (v4 : Int) (v5 : Int) (v6 : Int) (v7 : List Int) (v8 : List CV) (v9 : List CV) : Option Out :=
 cond (decide (v5 < v4)) (
  cond (decide ((0 : Int) <= v5)) (
  cond (decide (v5 < ((v3.length : Nat) : Int))) (
  Option.bind (v3[(Int.toNat v5)]?) fun (e5 : CV) =>
  let e6 : CV := (cell1 e5).headD .nili
  let e7 : CV := (cell1 e5).tail.headD .nili
  let e8 : CV := (cell1 e5).tail.tail.headD .nili
  cond (okInt .i64 e6 && (okSli .u8 e7 && (okSlg 3 e8 && true))) (
  let i9 : Int := cvInt e6
  let l10 : List Int := cvSli e7
  let l11 : List CV := cvSlg e8
  cond (isWr rk [.int .i64 i9, .sli .u8 l10, .slg 3 l11]) (
  let r12 : List Int := (ndWrite [.int .i64 i9, .sli .u8 l10, .slg 3 l11]).1
  let r13 : Bool := (ndWrite [.int .i64 i9, .sli .u8 l10, .slg 3 l11]).2
  cond (!r13) (
   k0 v1 v2 v5 r12 r13 v3 v4 v5 v5 v3 (Int.toNat v5) i9 l10 l11 r12 r13 i9 l10 l11 r12 r13 r12 r13 r13 v6 v7 v8 i9 l10 l11 v9)
  (
   let x14 : Int := IntKind.i64.wrap (v2 + ((r12.length : Nat) : Int))
   cond (decide ((0 : Int) <= v5)) (
   cond (decide (v5 < ((v1 : Nat) : Int))) (
   let l15 : List CV := v9.set (0 + (Int.toNat v5)) (.sli .u8 r12)
   let x16 : Int := IntKind.i64.wrap (v5 + 1)
   again v1 x14 v3 v4 x16 v6 v7 v8 l15) none) none)) none) none) none) none)
 (
  k1 v1 v2 v3 v4 v5 v6 v7 v8 v9)
noncomputable def lpDWrite_6 (rk : Nat) (k0 : Nat -> Int -> Int -> (List Int) -> Bool -> (List CV) -> Int -> Int -> Int -> (List CV) -> Nat -> Int -> (List Int) -> (List CV) -> (List Int) -> Bool -> Int -> (List Int) -> (List CV) -> (List Int) -> Bool -> (List Int) -> Bool -> Bool -> Int -> (List Int) -> (List CV) -> Int -> (List Int) -> (List CV) -> (List CV) -> Option Out) (k1 : Nat -> Int -> (List CV) -> Int -> Int -> Int -> (List Int) -> (List CV) -> (List CV) -> Option Out) : Nat -> Nat -> Int -> (List CV) -> Int -> Int -> Int -> (List Int) -> (List CV) -> (List CV) -> Option Out
 | 0 => fun _ _ _ _ _ _ _ _ _ => none
 | n + 1 => lpDWrite_6s rk (lpDWrite_6 rk k0 k1 n) k0 k1
noncomputable def LDWrite_6 (rk : Nat) : St -> (Ex -> St -> Option Out) -> Option Out := fun σ k => match σ with
 | ⟨[(q1, .ptr q2 q3 q4), (q5, .ref q6 q7 v1 true q8), (q9, .cl (.int .i64 v2)), (q10, .cl (.slg q11 v3)), (q12, .cl (.int .i64 v4)), (q13, .cl (.int .i64 v5))], [(q14, ⟨.var [.cl (.int .i64 v6), .cl (.sli .u8 v7), .cl (.slg q15 v8)], false⟩), (q16, ⟨.gen q17 v9, false⟩)]⟩ => cond (Nat.beq q1 1 && Nat.beq q2 65 && Nat.beq q3 0 && Nat.beq q4 0 && Nat.beq q5 4 && Nat.beq q6 90 && Nat.beq q7 0 && Nat.beq q8 1 && Nat.beq q9 5 && Nat.beq q10 28 && Nat.beq q11 3 && Nat.beq q12 29 && Nat.beq q13 30 && Nat.beq q14 65 && Nat.beq q15 3 && Nat.beq q16 90 && Nat.beq q17 1) (shut (lpDWrite_6 rk (fun y1 y2 y3 y4 y5 y6 y7 y8 y9 y10 y11 y12 y13 y14 y15 y16 y17 y18 y19 y20 y21 y22 y23 y24 y25 y26 y27 y28 y29 y30 y31 => k .ret ⟨[(1, .ptr 65 0 0), (2, .ref 66 0 0 true 1), (3, .cl (.bool false)), (4, .ref 90 0 y1 true 1), (5, .cl (.int .i64 y2)), (6, .cl (.int .i64 y3)), (7, .ptr 71 0 0), (8, .cl (.sli .u8 y4)), (9, .cl (.bool y5)), (28, .cl (.slg 3 y6)), (29, .cl (.int .i64 y7)), (30, .cl (.int .i64 y8)), (31, .cl (.bool true)), (32, .cl (.int .i64 y9)), (33, .cl (.vp (.slg 3 y10) y11 0)), (34, .cl (.agg [.int .i64 y12, .sli .u8 y13, .slg 3 y14])), (35, .tup [.cl (.sli .u8 y15), .cl (.bool y16)]), (36, .cl (.agg [.int .i64 y17, .sli .u8 y18, .slg 3 y19])), (37, .tup [.cl (.sli .u8 y20), .cl (.bool y21)]), (38, .cl (.sli .u8 y22)), (39, .cl (.bool y23)), (40, .cl (.bool y24)), (41, .cl (.bool true))], [(65, ⟨.var [.cl (.int .i64 y25), .cl (.sli .u8 y26), .cl (.slg 3 y27)], false⟩), (66, ⟨.ints .u8 [], false⟩), (71, ⟨.var [.cl (.int .i64 y28), .cl (.sli .u8 y29), .cl (.slg 3 y30)], false⟩), (90, ⟨.gen 1 y31, false⟩)]⟩) (fun y1 y2 y3 y4 y5 y6 y7 y8 y9 => k (.exit 0) ⟨[(1, .ptr 65 0 0), (4, .ref 90 0 y1 true 1), (5, .cl (.int .i64 y2)), (28, .cl (.slg 3 y3)), (29, .cl (.int .i64 y4)), (30, .cl (.int .i64 y5)), (31, .cl (.bool false))], [(65, ⟨.var [.cl (.int .i64 y6), .cl (.sli .u8 y7), .cl (.slg 3 y8)], false⟩), (90, ⟨.gen 1 y9, false⟩)]⟩) FUEL) v1 v2 v3 v4 v5 v6 v7 v8 v9) none
 | _ => none
noncomputable def EDWrite (rk : Nat) : Env := {
 orc := fun g => cond (Nat.beq g 29) (SDBoxed) (cond (Nat.beq g 58) (SDWrite) (cond (Nat.beq g 67) (SDPut) (cond (Nat.beq g 68) (SOSorted) (cond (Nat.beq g 69) (SSConcat) (fun _ _ => Tree.fail)))))
 pre := fun g => cond (Nat.beq g 29) (preDBoxed) (cond (Nat.beq g 58) (preRDWrite (rk)) (cond (Nat.beq g 67) (preDPut) (cond (Nat.beq g 68) (preOSorted) (cond (Nat.beq g 69) (preSConcat) (fun _ _ => true)))))
 byref := fun g => cond (Nat.beq g 67) ([0]) ([])
 keep := fun g => cond (Nat.beq g 67) (true) (false)
 live := fun r => cond (Nat.beq r 6) ([1, 4, 5, 28, 29, 30]) ([])
 ren := fun _ => []
 glob := glVal
 nt := 66
 lp := fun r => cond (Nat.beq r 6) (some (LDWrite_6 rk)) (none)
}
noncomputable def blpDWrite_6 : Code := (Cd.fst (Cd.fst (Cd.snd (Cd.fst (Cd.snd (Cd.snd (Cd.snd (Cd.snd (Tryd.f58.body.getD .skip)))))))))
theorem lpDWrite_6_step (rk : Nat) (k : Ex -> St -> Option Out) (n : Nat) (v1 : Nat) (v2 : Int) (v3 : List CV) (v4 : Int) (v5 : Int) (v6 : Int) (v7 : List Int) (v8 : List CV) (v9 : List CV) : iterK (n + 1) (codeK Tryd.prog (EDWrite rk) 40 blpDWrite_6) (head (EDWrite rk) 6) ⟨[(1, .ptr 65 0 0), (4, .ref 90 0 v1 true 1), (5, .cl (.int .i64 v2)), (28, .cl (.slg 3 v3)), (29, .cl (.int .i64 v4)), (30, .cl (.int .i64 v5))], [(65, ⟨.var [.cl (.int .i64 v6), .cl (.sli .u8 v7), .cl (.slg 3 v8)], false⟩), (90, ⟨.gen 1 v9, false⟩)]⟩ k = lpDWrite_6s rk (fun v1 v2 v3 v4 v5 v6 v7 v8 v9 => iterK n (codeK Tryd.prog (EDWrite rk) 40 blpDWrite_6) (head (EDWrite rk) 6) ⟨[(1, .ptr 65 0 0), (4, .ref 90 0 v1 true 1), (5, .cl (.int .i64 v2)), (28, .cl (.slg 3 v3)), (29, .cl (.int .i64 v4)), (30, .cl (.int .i64 v5))], [(65, ⟨.var [.cl (.int .i64 v6), .cl (.sli .u8 v7), .cl (.slg 3 v8)], false⟩), (90, ⟨.gen 1 v9, false⟩)]⟩ k) (fun y1 y2 y3 y4 y5 y6 y7 y8 y9 y10 y11 y12 y13 y14 y15 y16 y17 y18 y19 y20 y21 y22 y23 y24 y25 y26 y27 y28 y29 y30 y31 => k .ret ⟨[(1, .ptr 65 0 0), (2, .ref 66 0 0 true 1), (3, .cl (.bool false)), (4, .ref 90 0 y1 true 1), (5, .cl (.int .i64 y2)), (6, .cl (.int .i64 y3)), (7, .ptr 71 0 0), (8, .cl (.sli .u8 y4)), (9, .cl (.bool y5)), (28, .cl (.slg 3 y6)), (29, .cl (.int .i64 y7)), (30, .cl (.int .i64 y8)), (31, .cl (.bool true)), (32, .cl (.int .i64 y9)), (33, .cl (.vp (.slg 3 y10) y11 0)), (34, .cl (.agg [.int .i64 y12, .sli .u8 y13, .slg 3 y14])), (35, .tup [.cl (.sli .u8 y15), .cl (.bool y16)]), (36, .cl (.agg [.int .i64 y17, .sli .u8 y18, .slg 3 y19])), (37, .tup [.cl (.sli .u8 y20), .cl (.bool y21)]), (38, .cl (.sli .u8 y22)), (39, .cl (.bool y23)), (40, .cl (.bool y24)), (41, .cl (.bool true))], [(65, ⟨.var [.cl (.int .i64 y25), .cl (.sli .u8 y26), .cl (.slg 3 y27)], false⟩), (66, ⟨.ints .u8 [], false⟩), (71, ⟨.var [.cl (.int .i64 y28), .cl (.sli .u8 y29), .cl (.slg 3 y30)], false⟩), (90, ⟨.gen 1 y31, false⟩)]⟩) (fun y1 y2 y3 y4 y5 y6 y7 y8 y9 => k (.exit 0) ⟨[(1, .ptr 65 0 0), (4, .ref 90 0 y1 true 1), (5, .cl (.int .i64 y2)), (28, .cl (.slg 3 y3)), (29, .cl (.int .i64 y4)), (30, .cl (.int .i64 y5)), (31, .cl (.bool false))], [(65, ⟨.var [.cl (.int .i64 y6), .cl (.sli .u8 y7), .cl (.slg 3 y8)], false⟩), (90, ⟨.gen 1 y9, false⟩)]⟩) v1 v2 v3 v4 v5 v6 v7 v8 v9 := by kernel_rfl
theorem lpDWrite_6_eq (rk : Nat) (k : Ex -> St -> Option Out) : ∀ (n : Nat), ∀ (v1 : Nat) (v2 : Int) (v3 : List CV) (v4 : Int) (v5 : Int) (v6 : Int) (v7 : List Int) (v8 : List CV) (v9 : List CV), iterK n (codeK Tryd.prog (EDWrite rk) 40 blpDWrite_6) (head (EDWrite rk) 6) ⟨[(1, .ptr 65 0 0), (4, .ref 90 0 v1 true 1), (5, .cl (.int .i64 v2)), (28, .cl (.slg 3 v3)), (29, .cl (.int .i64 v4)), (30, .cl (.int .i64 v5))], [(65, ⟨.var [.cl (.int .i64 v6), .cl (.sli .u8 v7), .cl (.slg 3 v8)], false⟩), (90, ⟨.gen 1 v9, false⟩)]⟩ k = lpDWrite_6 rk (fun y1 y2 y3 y4 y5 y6 y7 y8 y9 y10 y11 y12 y13 y14 y15 y16 y17 y18 y19 y20 y21 y22 y23 y24 y25 y26 y27 y28 y29 y30 y31 => k .ret ⟨[(1, .ptr 65 0 0), (2, .ref 66 0 0 true 1), (3, .cl (.bool false)), (4, .ref 90 0 y1 true 1), (5, .cl (.int .i64 y2)), (6, .cl (.int .i64 y3)), (7, .ptr 71 0 0), (8, .cl (.sli .u8 y4)), (9, .cl (.bool y5)), (28, .cl (.slg 3 y6)), (29, .cl (.int .i64 y7)), (30, .cl (.int .i64 y8)), (31, .cl (.bool true)), (32, .cl (.int .i64 y9)), (33, .cl (.vp (.slg 3 y10) y11 0)), (34, .cl (.agg [.int .i64 y12, .sli .u8 y13, .slg 3 y14])), (35, .tup [.cl (.sli .u8 y15), .cl (.bool y16)]), (36, .cl (.agg [.int .i64 y17, .sli .u8 y18, .slg 3 y19])), (37, .tup [.cl (.sli .u8 y20), .cl (.bool y21)]), (38, .cl (.sli .u8 y22)), (39, .cl (.bool y23)), (40, .cl (.bool y24)), (41, .cl (.bool true))], [(65, ⟨.var [.cl (.int .i64 y25), .cl (.sli .u8 y26), .cl (.slg 3 y27)], false⟩), (66, ⟨.ints .u8 [], false⟩), (71, ⟨.var [.cl (.int .i64 y28), .cl (.sli .u8 y29), .cl (.slg 3 y30)], false⟩), (90, ⟨.gen 1 y31, false⟩)]⟩) (fun y1 y2 y3 y4 y5 y6 y7 y8 y9 => k (.exit 0) ⟨[(1, .ptr 65 0 0), (4, .ref 90 0 y1 true 1), (5, .cl (.int .i64 y2)), (28, .cl (.slg 3 y3)), (29, .cl (.int .i64 y4)), (30, .cl (.int .i64 y5)), (31, .cl (.bool false))], [(65, ⟨.var [.cl (.int .i64 y6), .cl (.sli .u8 y7), .cl (.slg 3 y8)], false⟩), (90, ⟨.gen 1 y9, false⟩)]⟩) n v1 v2 v3 v4 v5 v6 v7 v8 v9
 | 0 => by intros; rfl
 | n + 1 => by
  intros
  rw [lpDWrite_6_step]
  have ih := lpDWrite_6_eq rk k n
  simp only [lpDWrite_6, ih]
theorem LDWrite_6_ok (rk : Nat) : ∀ (σ : St) (k : Ex -> St -> Option Out) (r : Out), LDWrite_6 rk σ k = some r -> ∃ n, iterK n (codeK Tryd.prog (EDWrite rk) 40 blpDWrite_6) (head (EDWrite rk) 6) σ k = some r := by
 intro σ k r h
 unfold LDWrite_6 at h
 split at h
 ·replace h := cond_some h
  obtain ⟨hc, h⟩ := h
  simp only [Bool.and_eq_true, beq_prop, decide_eq_true_eq, Bool.not_eq_true'] at hc
  obtain ⟨⟨⟨⟨⟨⟨⟨⟨⟨⟨⟨⟨⟨⟨⟨⟨rfl, rfl⟩, rfl⟩, rfl⟩, rfl⟩, rfl⟩, rfl⟩, rfl⟩, rfl⟩, rfl⟩, rfl⟩, rfl⟩, rfl⟩, rfl⟩, rfl⟩, rfl⟩, rfl⟩ := hc
  rw [shut_eq] at h
  exact ⟨FUEL, (lpDWrite_6_eq rk k FUEL _ _ _ _ _ _ _ _ _ ).trans h⟩
 ·cases h
theorem loopsDWrite (rk : Nat) : ∀ c, Tryd.f58.body = some c -> LoopsOk Tryd.prog (EDWrite rk) 40 c := by
 intro c hc
 cases hc
 exact ⟨trivial, ⟨⟨trivial, ⟨⟨trivial, trivial, jn_none rfl⟩, trivial, jn_none rfl⟩, jn_none rfl⟩, ⟨trivial, ⟨trivial, ⟨⟨trivial, ⟨⟨trivial, ⟨⟨trivial, trivial, jn_none rfl⟩, ⟨⟨trivial, ⟨trivial, ⟨⟨trivial, ⟨⟨trivial, trivial, jn_none rfl⟩, trivial, jn_none rfl⟩, jn_none rfl⟩, trivial, jn_none rfl⟩, jn_none rfl⟩, jn_none rfl⟩, trivial, jn_none rfl⟩, jn_none rfl⟩, jn_none rfl⟩, lp_some rfl (LDWrite_6_ok rk)⟩, jn_none rfl⟩, ⟨⟨trivial, ⟨⟨trivial, trivial, jn_none rfl⟩, trivial, jn_none rfl⟩, jn_none rfl⟩, ⟨trivial, trivial, jn_none rfl⟩, jn_none rfl⟩, jn_none rfl⟩, jn_none rfl⟩, jn_none rfl⟩, jn_none rfl⟩, jn_none rfl⟩
noncomputable def gDWrite (rk : Nat) (ta : Int) (ba : List Int) (ka : List CV) : Option Out :=
 let r1 : Bool := derBoxed ta
 cond (!r1) (
  cond (headOk ta ((ba.length : Nat) : Int)) (
  let r3 : List Int := derHead ta ((ba.length : Nat) : Int)
  let l4 : List Int := r3 ++ ba
  cond (Nat.ble (l4.length * 1) LIMN) (
  cond (Nat.ble l4.length LIMN) (
  some (.ret [.cl (.sli .u8 l4), .cl (.bool true)] [])) none) none) none)
 (
  cond (decide ((0 : Int) <= ((ka.length : Nat) : Int))) (
  cond (decide (((ka.length : Nat) : Int) <= ((ka.length : Nat) : Int))) (
  cond (decide (((ka.length : Nat) : Int) * 24 <= LIM)) (
  cond (decide (((ka.length : Nat) : Int) <= LIM)) (
  shut (lpDWrite_6 rk
  (fun (y5 : Nat) (y6 : Int) (y7 : Int) (y8 : List Int) (y9 : Bool) (y10 : List CV) (y11 : Int) (y12 : Int) (y13 : Int) (y14 : List CV) (y15 : Nat) (y16 : Int) (y17 : List Int) (y18 : List CV) (y19 : List Int) (y20 : Bool) (y21 : Int) (y22 : List Int) (y23 : List CV) (y24 : List Int) (y25 : Bool) (y26 : List Int) (y27 : Bool) (y28 : Bool) (y29 : Int) (y30 : List Int) (y31 : List CV) (y32 : Int) (y33 : List Int) (y34 : List CV) (y35 : List CV) =>
   some (.ret [.cl (.sli .u8 []), .cl (.bool false)] []))
  (fun (y36 : Nat) (y37 : Int) (y38 : List CV) (y39 : Int) (y40 : Int) (y41 : Int) (y42 : List Int) (y43 : List CV) (y44 : List CV) =>
   cond (decide (y41 = 49)) (
    cond (rowsOk y44) (
    let r45 : Bool := rowsSorted y44
    cond (!r45) (
     some (.ret [.cl (.sli .u8 []), .cl (.bool false)] []))
    (
     cond (headOk y41 y37) (
     let r47 : List Int := derHead y41 y37
     cond (joinOk y44) (
     let r48 : List Int := rowsJoin y44
     let l49 : List Int := r47 ++ r48
     cond (Nat.ble (l49.length * 1) LIMN) (
     cond (Nat.ble l49.length LIMN) (
     some (.ret [.cl (.sli .u8 l49), .cl (.bool true)] [])) none) none) none) none)) none)
   (
    cond (headOk y41 y37) (
    let r51 : List Int := derHead y41 y37
    cond (joinOk y44) (
    let r52 : List Int := rowsJoin y44
    let l53 : List Int := r51 ++ r52
    cond (Nat.ble (l53.length * 1) LIMN) (
    cond (Nat.ble l53.length LIMN) (
    some (.ret [.cl (.sli .u8 l53), .cl (.bool true)] [])) none) none) none) none))
  FUEL) (Int.toNat ((ka.length : Nat) : Int)) 0 ka ((ka.length : Nat) : Int) 0 ta ba ka (List.replicate (Int.toNat ((ka.length : Nat) : Int)) (.sli .u8 []))) none) none) none) none)
theorem gDWrite_eq (rk : Nat) (ta : Int) (ba : List Int) (ka : List CV) : bodyK Tryd.prog (EDWrite rk) 40 false Tryd.f58 [.cl (.agg [.int .i64 ta, .sli .u8 ba, .slg 3 ka])] [] = gDWrite rk ta ba ka := by kernel_rfl
end Go.Proofs.YtfkpjbbkdkcdcabDoorA
