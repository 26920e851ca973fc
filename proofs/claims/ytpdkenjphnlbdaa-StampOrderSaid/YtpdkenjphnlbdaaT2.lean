/-
  What the reading of apostille/stamp.digits comes to, printed by a program. Conditions: none.
-/
import Derived.Test.YtpdkenjphnlbdaaT1
set_option linter.unusedVariables false
set_option linter.unusedSimpArgs false
set_option maxRecDepth 100000
namespace Go.Proofs.YtpdkenjphnlbdaaA
noncomputable def EDigits : Env := {
  orc := fun _ => fun _ _ => none
  pre := fun _ => fun _ _ => true
  byref := fun _ => []
  keep := fun _ => false
  live := fun _ => []
  ren := fun _ => []
  glob := fun _ => none
  nt := 31
  lp := fun _ => none }
theorem loopsDigits : ∀ c, Try.f13.body = some c → LoopsOk Try.prog EDigits 40 c := by
  intro c hc
  cases hc
  exact ⟨trivial, ⟨trivial, ⟨⟨trivial, ⟨⟨trivial, trivial⟩, trivial⟩⟩, ⟨trivial, trivial⟩⟩⟩⟩
noncomputable def gDigits (s : ByteArray) : Option Out :=
  cond (decide ((0 : Int) < ((s.size : Nat) : Int))) (
  let x1 : Int := bget s 0
  let x2 : Int := IntKind.i64.wrap x1
  let x3 : Int := IntKind.i64.wrap (x2 - 48)
  cond (decide ((1 : Int) < ((s.size : Nat) : Int))) (
  let x4 : Int := bget s 1
  let x5 : Int := IntKind.i64.wrap x4
  let x6 : Int := IntKind.i64.wrap (x5 - 48)
  cond (decide (x3 < 0)) (
    some (.ret [.cl (.int .i64 (-100000))] []))
  (
    cond (decide ((9 : Int) < x3)) (
      some (.ret [.cl (.int .i64 (-100000))] []))
    (
      cond (decide (x6 < 0)) (
        some (.ret [.cl (.int .i64 (-100000))] []))
      (
        cond (decide ((9 : Int) < x6)) (
          some (.ret [.cl (.int .i64 (-100000))] []))
        (
          let x7 : Int := IntKind.i64.wrap ((10 : Int) * x3)
          let x8 : Int := IntKind.i64.wrap (x7 + x6)
          some (.ret [.cl (.int .i64 x8)] [])))))) none) none
theorem gDigits_eq (s : ByteArray) : bodyK Try.prog EDigits 40 false Try.f13 [.cl (.str s)] [] = gDigits s := by kernel_rfl
end Go.Proofs.YtpdkenjphnlbdaaA

/-
  What the reading of (apostille/stamp.date).leap comes to, printed by a program. Conditions: none.
-/
set_option linter.unusedVariables false
set_option linter.unusedSimpArgs false
set_option maxRecDepth 100000
namespace Go.Proofs.YtpdkenjphnlbdaaA
noncomputable def EDLeap : Env := {
  orc := fun _ => fun _ _ => none
  pre := fun _ => fun _ _ => true
  byref := fun _ => []
  keep := fun _ => false
  live := fun _ => []
  ren := fun _ => []
  glob := fun _ => none
  nt := 19
  lp := fun _ => none }
theorem loopsDLeap : ∀ c, Try.f23.body = some c → LoopsOk Try.prog EDLeap 40 c := by
  intro c hc
  cases hc
  exact ⟨trivial, ⟨trivial, trivial⟩⟩
noncomputable def gDLeap (d0 : Int) (d1 : Int) (d2 : Int) (d3 : Int) (d4 : Int) (d5 : Int) : Option Out :=
  let x1 : Int := Int.tmod d0 4
  cond (decide (x1 = 0)) (
    let x2 : Int := Int.tmod d0 100
    cond (!decide (x2 = 0)) (
      some (.ret [.cl (.bool true)] []))
    (
      let x3 : Int := Int.tmod d0 400
      some (.ret [.cl (.bool (decide (x3 = 0)))] [])))
  (
    some (.ret [.cl (.bool false)] []))
theorem gDLeap_eq (d0 : Int) (d1 : Int) (d2 : Int) (d3 : Int) (d4 : Int) (d5 : Int) : bodyK Try.prog EDLeap 40 false Try.f23 [.cl (.aggi 6 .i64 [d0, d1, d2, d3, d4, d5])] [] = gDLeap d0 d1 d2 d3 d4 d5 := by kernel_rfl
end Go.Proofs.YtpdkenjphnlbdaaA

/-
  What the reading of (apostille/stamp.date).days comes to, printed by a program. Conditions: none.
-/
set_option linter.unusedVariables false
set_option linter.unusedSimpArgs false
set_option maxRecDepth 100000
namespace Go.Proofs.YtpdkenjphnlbdaaA
noncomputable def EDDays : Env := {
  orc := fun g => cond (Nat.beq g 23) (SDLeap) (fun _ _ => none)
  pre := fun g => cond (Nat.beq g 23) (preDLeap) (fun _ _ => true)
  byref := fun _ => []
  keep := fun _ => false
  live := fun _ => []
  ren := fun _ => []
  glob := fun _ => none
  nt := 14
  lp := fun _ => none }
theorem loopsDDays : ∀ c, Try.f21.body = some c → LoopsOk Try.prog EDDays 40 c := by
  intro c hc
  cases hc
  exact ⟨trivial, ⟨⟨trivial, ⟨trivial, ⟨⟨⟨trivial, ⟨⟨trivial, trivial⟩, trivial⟩⟩, ⟨trivial, trivial⟩⟩, ⟨⟨trivial, ⟨trivial, ⟨trivial, ⟨trivial, ⟨trivial, ⟨trivial, trivial⟩⟩⟩⟩⟩⟩, ⟨⟨trivial, trivial⟩, trivial⟩⟩⟩⟩⟩, ⟨trivial, trivial⟩⟩⟩
noncomputable def gDDays (d0 : Int) (d1 : Int) (d2 : Int) (d3 : Int) (d4 : Int) (d5 : Int) : Option Out :=
  cond (decide (d1 = 2)) (
    cond (stOk d0) (
    let r1 : Bool := stLeap d0
    cond (r1) (
      some (.ret [.cl (.int .i64 29)] []))
    (
      some (.ret [.cl (.int .i64 28)] []))) none)
  (
    cond (decide (d1 = 4)) (
      some (.ret [.cl (.int .i64 30)] []))
    (
      cond (decide (d1 = 6)) (
        some (.ret [.cl (.int .i64 30)] []))
      (
        cond (decide (d1 = 9)) (
          some (.ret [.cl (.int .i64 30)] []))
        (
          cond (decide (d1 = 11)) (
            some (.ret [.cl (.int .i64 30)] []))
          (
            some (.ret [.cl (.int .i64 31)] []))))))
theorem gDDays_eq (d0 : Int) (d1 : Int) (d2 : Int) (d3 : Int) (d4 : Int) (d5 : Int) : bodyK Try.prog EDDays 40 false Try.f21 [.cl (.aggi 6 .i64 [d0, d1, d2, d3, d4, d5])] [] = gDDays d0 d1 d2 d3 d4 d5 := by kernel_rfl
end Go.Proofs.YtpdkenjphnlbdaaA

/-
  What the reading of (apostille/stamp.date).fit comes to, printed by a program. Conditions: none.
-/
set_option linter.unusedVariables false
set_option linter.unusedSimpArgs false
set_option maxRecDepth 100000
namespace Go.Proofs.YtpdkenjphnlbdaaA
noncomputable def EDFit : Env := {
  orc := fun g => cond (Nat.beq g 21) (SDDays) (fun _ _ => none)
  pre := fun g => cond (Nat.beq g 21) (preDDays) (fun _ _ => true)
  byref := fun _ => []
  keep := fun _ => false
  live := fun _ => []
  ren := fun _ => []
  glob := fun _ => none
  nt := 61
  lp := fun _ => none }
theorem loopsDFit : ∀ c, Try.f14.body = some c → LoopsOk Try.prog EDFit 40 c := by
  intro c hc
  cases hc
  exact ⟨trivial, ⟨⟨trivial, ⟨⟨trivial, trivial⟩, trivial⟩⟩, ⟨trivial, trivial⟩⟩⟩
noncomputable def gDFit (d0 : Int) (d1 : Int) (d2 : Int) (d3 : Int) (d4 : Int) (d5 : Int) : Option Out :=
  cond (decide (d0 < 1)) (
    some (.ret [.cl (.bool false)] []))
  (
    cond (decide ((9999 : Int) < d0)) (
      some (.ret [.cl (.bool false)] []))
    (
      cond (decide (d1 < 1)) (
        some (.ret [.cl (.bool false)] []))
      (
        cond (decide ((12 : Int) < d1)) (
          some (.ret [.cl (.bool false)] []))
        (
          cond (decide (d2 < 1)) (
            some (.ret [.cl (.bool false)] []))
          (
            cond (stOk d0) (
            let r1 : Int := stDays d0 d1
            cond (decide (r1 < d2)) (
              some (.ret [.cl (.bool false)] []))
            (
              cond (decide ((0 : Int) ≤ d3)) (
                cond (decide (d3 < 24)) (
                  cond (decide ((0 : Int) ≤ d4)) (
                    cond (decide (d4 < 60)) (
                      cond (decide ((0 : Int) ≤ d5)) (
                        some (.ret [.cl (.bool (decide (d5 < 60)))] []))
                      (
                        some (.ret [.cl (.bool false)] [])))
                    (
                      some (.ret [.cl (.bool false)] [])))
                  (
                    some (.ret [.cl (.bool false)] [])))
                (
                  some (.ret [.cl (.bool false)] [])))
              (
                some (.ret [.cl (.bool false)] [])))) none)))))
theorem gDFit_eq (d0 : Int) (d1 : Int) (d2 : Int) (d3 : Int) (d4 : Int) (d5 : Int) : bodyK Try.prog EDFit 40 false Try.f14 [.cl (.aggi 6 .i64 [d0, d1, d2, d3, d4, d5])] [] = gDFit d0 d1 d2 d3 d4 d5 := by kernel_rfl
end Go.Proofs.YtpdkenjphnlbdaaA

/-
  What the reading of (apostille/stamp.date).seconds comes to, printed by a program. Conditions: none.
-/
set_option linter.unusedVariables false
set_option linter.unusedSimpArgs false
set_option maxRecDepth 100000
namespace Go.Proofs.YtpdkenjphnlbdaaA
noncomputable def EDSecs : Env := {
  orc := fun _ => fun _ _ => none
  pre := fun _ => fun _ _ => true
  byref := fun _ => []
  keep := fun _ => false
  live := fun _ => []
  ren := fun _ => []
  glob := fun _ => none
  nt := 59
  lp := fun _ => none }
theorem loopsDSecs : ∀ c, Try.f15.body = some c → LoopsOk Try.prog EDSecs 40 c := by
  intro c hc
  cases hc
  exact ⟨trivial, ⟨trivial, ⟨⟨trivial, ⟨trivial, trivial⟩⟩, ⟨trivial, ⟨trivial, ⟨trivial, ⟨trivial, ⟨trivial, trivial⟩⟩⟩⟩⟩⟩⟩⟩
noncomputable def gDSecs (d0 : Int) (d1 : Int) (d2 : Int) (d3 : Int) (d4 : Int) (d5 : Int) : Option Out :=
  let x1 : Int := IntKind.i64.wrap (d1 - 3)
  cond (decide (x1 < 0)) (
    let x2 : Int := IntKind.i64.wrap (d0 - 1)
    let x3 : Int := IntKind.i64.wrap (x1 + 12)
    let x4 : Int := IntKind.i64.wrap (Int.tdiv x2 400)
    let x5 : Int := Int.tmod x2 400
    let x6 : Int := IntKind.i64.wrap ((153 : Int) * x3)
    let x7 : Int := IntKind.i64.wrap (x6 + 2)
    let x8 : Int := IntKind.i64.wrap (Int.tdiv x7 5)
    let x9 : Int := IntKind.i64.wrap (x8 + d2)
    let x10 : Int := IntKind.i64.wrap (x9 - 1)
    let x11 : Int := IntKind.i64.wrap (x4 * 146097)
    let x12 : Int := IntKind.i64.wrap (x5 * 365)
    let x13 : Int := IntKind.i64.wrap (x11 + x12)
    let x14 : Int := IntKind.i64.wrap (Int.tdiv x5 4)
    let x15 : Int := IntKind.i64.wrap (x13 + x14)
    let x16 : Int := IntKind.i64.wrap (Int.tdiv x5 100)
    let x17 : Int := IntKind.i64.wrap (x15 - x16)
    let x18 : Int := IntKind.i64.wrap (x17 + x10)
    let x19 : Int := IntKind.i64.wrap (x18 - 719468)
    let x20 : Int := IntKind.i64.wrap (x19 * 86400)
    let x21 : Int := IntKind.i64.wrap (d3 * 3600)
    let x22 : Int := IntKind.i64.wrap (d4 * 60)
    let x23 : Int := IntKind.i64.wrap (x21 + x22)
    let x24 : Int := IntKind.i64.wrap (x23 + d5)
    let x25 : Int := IntKind.i64.wrap (x20 + x24)
    some (.ret [.cl (.int .i64 x25)] []))
  (
    let x26 : Int := IntKind.i64.wrap (Int.tdiv d0 400)
    let x27 : Int := Int.tmod d0 400
    let x28 : Int := IntKind.i64.wrap ((153 : Int) * x1)
    let x29 : Int := IntKind.i64.wrap (x28 + 2)
    let x30 : Int := IntKind.i64.wrap (Int.tdiv x29 5)
    let x31 : Int := IntKind.i64.wrap (x30 + d2)
    let x32 : Int := IntKind.i64.wrap (x31 - 1)
    let x33 : Int := IntKind.i64.wrap (x26 * 146097)
    let x34 : Int := IntKind.i64.wrap (x27 * 365)
    let x35 : Int := IntKind.i64.wrap (x33 + x34)
    let x36 : Int := IntKind.i64.wrap (Int.tdiv x27 4)
    let x37 : Int := IntKind.i64.wrap (x35 + x36)
    let x38 : Int := IntKind.i64.wrap (Int.tdiv x27 100)
    let x39 : Int := IntKind.i64.wrap (x37 - x38)
    let x40 : Int := IntKind.i64.wrap (x39 + x32)
    let x41 : Int := IntKind.i64.wrap (x40 - 719468)
    let x42 : Int := IntKind.i64.wrap (x41 * 86400)
    let x43 : Int := IntKind.i64.wrap (d3 * 3600)
    let x44 : Int := IntKind.i64.wrap (d4 * 60)
    let x45 : Int := IntKind.i64.wrap (x43 + x44)
    let x46 : Int := IntKind.i64.wrap (x45 + d5)
    let x47 : Int := IntKind.i64.wrap (x42 + x46)
    some (.ret [.cl (.int .i64 x47)] []))
theorem gDSecs_eq (d0 : Int) (d1 : Int) (d2 : Int) (d3 : Int) (d4 : Int) (d5 : Int) : bodyK Try.prog EDSecs 40 false Try.f15 [.cl (.aggi 6 .i64 [d0, d1, d2, d3, d4, d5])] [] = gDSecs d0 d1 d2 d3 d4 d5 := by kernel_rfl
end Go.Proofs.YtpdkenjphnlbdaaA

/-
  What the reading of apostille/stamp.Days comes to, printed by a program. Conditions: none.
-/
set_option linter.unusedVariables false
set_option linter.unusedSimpArgs false
set_option maxRecDepth 100000
namespace Go.Proofs.YtpdkenjphnlbdaaA
noncomputable def ESDays : Env := {
  orc := fun g => cond (Nat.beq g 14) (SDFit) (cond (Nat.beq g 21) (SDDays) (fun _ _ => none))
  pre := fun g => cond (Nat.beq g 14) (preDFit) (cond (Nat.beq g 21) (preDDays) (fun _ _ => true))
  byref := fun _ => []
  keep := fun _ => false
  live := fun _ => []
  ren := fun _ => []
  glob := fun _ => none
  nt := 14
  lp := fun _ => none }
theorem loopsSDays : ∀ c, Try.f11.body = some c → LoopsOk Try.prog ESDays 40 c := by
  intro c hc
  cases hc
  exact ⟨trivial, ⟨trivial, ⟨⟨trivial, ⟨⟨trivial, trivial⟩, trivial⟩⟩, ⟨trivial, trivial⟩⟩⟩⟩
noncomputable def gSDays (y : Int) (m : Int) : Option Out :=
  let r1 : Bool := stFit y m 1 0 0 0
  cond (!r1) (
    some (.ret [.cl (.int .i64 0)] []))
  (
    cond (stOk y) (
    let r2 : Int := stDays y m
    some (.ret [.cl (.int .i64 r2)] [])) none)
theorem gSDays_eq (y : Int) (m : Int) : bodyK Try.prog ESDays 40 false Try.f11 [.cl (.int .i64 y), .cl (.int .i64 m)] [] = gSDays y m := by kernel_rfl
end Go.Proofs.YtpdkenjphnlbdaaA

/-
  What the reading of apostille/stamp.dated comes to, printed by a program. Conditions: none.
-/
set_option linter.unusedVariables false
set_option linter.unusedSimpArgs false
set_option maxRecDepth 100000
namespace Go.Proofs.YtpdkenjphnlbdaaA
noncomputable def EDated : Env := {
  orc := fun _ => fun _ _ => none
  pre := fun _ => fun _ _ => true
  byref := fun _ => []
  keep := fun _ => false
  live := fun _ => []
  ren := fun _ => []
  glob := fun _ => none
  nt := 81
  lp := fun _ => none }
theorem loopsDated : ∀ c, Try.f18.body = some c → LoopsOk Try.prog EDated 40 c := by
  intro c hc
  cases hc
  exact ⟨trivial, ⟨trivial, ⟨trivial, ⟨trivial, ⟨trivial, ⟨trivial, ⟨trivial, ⟨trivial, ⟨trivial, ⟨trivial, ⟨⟨trivial, ⟨trivial, trivial⟩⟩, ⟨trivial, trivial⟩⟩⟩⟩⟩⟩⟩⟩⟩⟩⟩⟩
noncomputable def gDated (t : Int) : Option Out :=
  let x1 : Int := IntKind.i64.wrap (t - (-62135596800))
  let x2 : Int := IntKind.i64.wrap (Int.tdiv x1 86400)
  let x3 : Int := IntKind.i64.wrap (t - (-62135596800))
  let x4 : Int := Int.tmod x3 86400
  let x5 : Int := IntKind.i64.wrap (x2 + 306)
  let x6 : Int := IntKind.i64.wrap (Int.tdiv x5 146097)
  let x7 : Int := Int.tmod x5 146097
  let x8 : Int := IntKind.i64.wrap (Int.tdiv x7 1460)
  let x9 : Int := IntKind.i64.wrap (x7 - x8)
  let x10 : Int := IntKind.i64.wrap (Int.tdiv x7 36524)
  let x11 : Int := IntKind.i64.wrap (x9 + x10)
  let x12 : Int := IntKind.i64.wrap (Int.tdiv x7 146096)
  let x13 : Int := IntKind.i64.wrap (x11 - x12)
  let x14 : Int := IntKind.i64.wrap (Int.tdiv x13 365)
  let x15 : Int := IntKind.i64.wrap ((365 : Int) * x14)
  let x16 : Int := IntKind.i64.wrap (Int.tdiv x14 4)
  let x17 : Int := IntKind.i64.wrap (x15 + x16)
  let x18 : Int := IntKind.i64.wrap (Int.tdiv x14 100)
  let x19 : Int := IntKind.i64.wrap (x17 - x18)
  let x20 : Int := IntKind.i64.wrap (x7 - x19)
  let x21 : Int := IntKind.i64.wrap ((5 : Int) * x20)
  let x22 : Int := IntKind.i64.wrap (x21 + 2)
  let x23 : Int := IntKind.i64.wrap (Int.tdiv x22 153)
  let x24 : Int := IntKind.i64.wrap (x6 * 400)
  let x25 : Int := IntKind.i64.wrap (x14 + x24)
  let x26 : Int := IntKind.i64.wrap (x23 + 3)
  let x27 : Int := IntKind.i64.wrap ((153 : Int) * x23)
  let x28 : Int := IntKind.i64.wrap (x27 + 2)
  let x29 : Int := IntKind.i64.wrap (Int.tdiv x28 5)
  let x30 : Int := IntKind.i64.wrap (x20 - x29)
  let x31 : Int := IntKind.i64.wrap (x30 + 1)
  let x32 : Int := IntKind.i64.wrap (Int.tdiv x4 3600)
  let x33 : Int := IntKind.i64.wrap (Int.tdiv x4 60)
  let x34 : Int := Int.tmod x33 60
  let x35 : Int := Int.tmod x4 60
  cond (decide ((12 : Int) < x26)) (
    let x36 : Int := IntKind.i64.wrap (x25 + 1)
    let x37 : Int := IntKind.i64.wrap (x26 - 12)
    some (.ret [.cl (.aggi 6 .i64 [x36, x37, x31, x32, x34, x35])] []))
  (
    some (.ret [.cl (.aggi 6 .i64 [x25, x26, x31, x32, x34, x35])] []))
theorem gDated_eq (t : Int) : bodyK Try.prog EDated 40 false Try.f18 [.cl (.int .i64 t)] [] = gDated t := by kernel_rfl
end Go.Proofs.YtpdkenjphnlbdaaA

/-
  What the reading of apostille/stamp.put comes to, printed by a program. Conditions: none.
-/
set_option linter.unusedVariables false
set_option linter.unusedSimpArgs false
set_option maxRecDepth 100000
namespace Go.Proofs.YtpdkenjphnlbdaaA
noncomputable def EPut : Env := {
  orc := fun _ => fun _ _ => none
  pre := fun _ => fun _ _ => true
  byref := fun _ => []
  keep := fun _ => false
  live := fun _ => []
  ren := fun _ => []
  glob := fun _ => none
  nt := 17
  lp := fun _ => none }
theorem loopsPut : ∀ c, Try.f19.body = some c → LoopsOk Try.prog EPut 40 c := by
  intro c hc
  cases hc
  exact ⟨trivial, ⟨trivial, trivial⟩⟩
noncomputable def gPut_0 (n : Int) : Option Out :=
  let x1 : Int := IntKind.i64.wrap (Int.tdiv n 10)
  let x2 : Int := Int.tmod x1 10
  let x3 : Int := IntKind.i64.wrap ((48 : Int) + x2)
  let x4 : Int := IntKind.u8.wrap x3
  let x5 : Int := Int.tmod n 10
  let x6 : Int := IntKind.i64.wrap ((48 : Int) + x5)
  let x7 : Int := IntKind.u8.wrap x6
  some (.ret [.ref 0 0 2 true 1] [some ⟨.ints .u8 [x4, x7], false⟩])
theorem gPut_0_eq (n : Int) : bodyK Try.prog EPut 40 true Try.f19 [.nils, .cl (.int .i64 n)] [] = gPut_0 n := by kernel_rfl
noncomputable def gPut_1 (len : Nat) (n : Int) (l : List Int) : Option Out :=
  let x1 : Int := IntKind.i64.wrap (Int.tdiv n 10)
  let x2 : Int := Int.tmod x1 10
  let x3 : Int := IntKind.i64.wrap ((48 : Int) + x2)
  let x4 : Int := IntKind.u8.wrap x3
  let x5 : Int := Int.tmod n 10
  let x6 : Int := IntKind.i64.wrap ((48 : Int) + x5)
  let x7 : Int := IntKind.u8.wrap x6
  let l8 : List Int := l ++ [x4, x7]
  cond (decide (((l8.length : Nat) : Int) * 1 ≤ LIM)) (
  cond (decide (((l8.length : Nat) : Int) ≤ LIM)) (
  some (.ret [.ref 1 0 l8.length true 1] [none, some ⟨.ints .u8 l8, false⟩])) none) none
theorem gPut_1_eq (len : Nat) (n : Int) (l : List Int) : bodyK Try.prog EPut 40 true Try.f19 [.ref 0 0 len true 1, .cl (.int .i64 n)] [⟨.ints .u8 l, false⟩] = gPut_1 len n l := by kernel_rfl
end Go.Proofs.YtpdkenjphnlbdaaA

/-
  What the reading of apostille/stamp.Text comes to, printed by a program. Conditions: none.
-/
set_option linter.unusedVariables false
set_option linter.unusedSimpArgs false
set_option maxRecDepth 100000
namespace Go.Proofs.YtpdkenjphnlbdaaA
noncomputable def ESText : Env := {
  orc := fun g => cond (Nat.beq g 18) (SDated) (cond (Nat.beq g 19) (SPut) (fun _ _ => none))
  pre := fun g => cond (Nat.beq g 18) (preDated) (cond (Nat.beq g 19) (prePut) (fun _ _ => true))
  byref := fun g => cond (Nat.beq g 19) ([0]) ([])
  keep := fun g => cond (Nat.beq g 19) (true) (false)
  live := fun r => cond (Nat.beq r 6) ([4, 19, 20]) ([])
  ren := fun _ => []
  glob := fun _ => none
  nt := 31
  lp := fun _ => none }
theorem loopsSText : ∀ c, Try.f9.body = some c → LoopsOk Try.prog ESText 40 c := by
  intro c hc
  cases hc
  exact ⟨trivial, ⟨⟨trivial, ⟨⟨trivial, trivial⟩, trivial⟩⟩, ⟨trivial, ⟨trivial, ⟨⟨trivial, ⟨⟨trivial, ⟨⟨trivial, trivial⟩, ⟨⟨trivial, trivial⟩, trivial⟩⟩⟩, lp_none rfl⟩⟩, ⟨trivial, trivial⟩⟩⟩⟩⟩⟩
noncomputable def gSText (t : Int) : Option Out :=
  cond (decide (t < (-62135596800))) (
    some (.ret [.cl (.str (⟨#[]⟩ : ByteArray))] []))
  (
    cond (decide ((253402300799 : Int) < t)) (
      some (.ret [.cl (.str (⟨#[]⟩ : ByteArray))] []))
    (
      cond (stIn t) (
      let r1 : Int := (stDated t).d0
      let r2 : Int := (stDated t).d1
      let r3 : Int := (stDated t).d2
      let r4 : Int := (stDated t).d3
      let r5 : Int := (stDated t).d4
      let r6 : Int := (stDated t).d5
      let x7 : Int := IntKind.i64.wrap (Int.tdiv r1 100)
      let r9 : List Int := stTwo x7
      cond (decide (r9.length < 1000)) (
      let r11 : List Int := r9 ++ stTwo r1
      cond (decide (r11.length < 1000)) (
      let r13 : List Int := r11 ++ stTwo r2
      cond (decide (r13.length < 1000)) (
      let r15 : List Int := r13 ++ stTwo r3
      cond (decide (r15.length < 1000)) (
      let r17 : List Int := r15 ++ stTwo r4
      cond (decide (r17.length < 1000)) (
      let r19 : List Int := r17 ++ stTwo r5
      cond (decide (r19.length < 1000)) (
      let r21 : List Int := r19 ++ stTwo r6
      let l22 : List Int := r21 ++ [90]
      cond (decide (((l22.length : Nat) : Int) * 1 ≤ LIM)) (
      cond (decide (((l22.length : Nat) : Int) ≤ LIM)) (
      let s23 : ByteArray := strOf l22
      some (.ret [.cl (.str s23)] [])) none) none) none) none) none) none) none) none) none))
theorem gSText_eq (t : Int) : bodyK Try.prog ESText 40 false Try.f9 [.cl (.int .i64 t)] [] = gSText t := by kernel_rfl
end Go.Proofs.YtpdkenjphnlbdaaA

/-
  What the reading of apostille/stamp.Read comes to, printed by a program. Conditions: none.
-/
set_option linter.unusedVariables false
set_option linter.unusedSimpArgs false
set_option maxRecDepth 100000
namespace Go.Proofs.YtpdkenjphnlbdaaA
noncomputable def ESRead : Env := {
  orc := fun g => cond (Nat.beq g 13) (SDigits) (cond (Nat.beq g 14) (SDFit) (cond (Nat.beq g 15) (SDSecs) (fun _ _ => none)))
  pre := fun g => cond (Nat.beq g 13) (preDigits) (cond (Nat.beq g 14) (preDFit) (cond (Nat.beq g 15) (preDSecs) (fun _ _ => true)))
  byref := fun _ => []
  keep := fun _ => false
  live := fun r => cond (Nat.beq r 5) ([0, 4, 14]) ([])
  ren := fun _ => []
  glob := fun _ => none
  nt := 38
  lp := fun _ => none }
theorem loopsSRead : ∀ c, Try.f7.body = some c → LoopsOk Try.prog ESRead 40 c := by
  intro c hc
  cases hc
  exact ⟨trivial, ⟨⟨trivial, ⟨⟨trivial, trivial⟩, trivial⟩⟩, ⟨trivial, ⟨⟨trivial, ⟨⟨trivial, ⟨⟨trivial, trivial⟩, ⟨⟨trivial, trivial⟩, trivial⟩⟩⟩, lp_none rfl⟩⟩, ⟨trivial, ⟨⟨trivial, ⟨⟨trivial, trivial⟩, trivial⟩⟩, ⟨trivial, trivial⟩⟩⟩⟩⟩⟩⟩
noncomputable def gSRead (s : ByteArray) : Option Out :=
  cond (!decide (((s.size : Nat) : Int) = 15)) (
    some (.ret [.cl (.int .i64 0), .cl (.int .i64 1)] []))
  (
    cond (decide ((14 : Int) < ((s.size : Nat) : Int))) (
    let x1 : Int := bget s 14
    cond (!decide (x1 = 90)) (
      some (.ret [.cl (.int .i64 0), .cl (.int .i64 1)] []))
    (
      cond (decide ((2 : Int) ≤ ((s.size : Nat) : Int))) (
      let s2 : ByteArray := s.extract 2 s.size
      cond (decide (2 ≤ s2.size)) (
      let r3 : Int := stDigits s2
      cond (decide ((4 : Int) ≤ ((s.size : Nat) : Int))) (
      let s4 : ByteArray := s.extract 4 s.size
      cond (decide (2 ≤ s4.size)) (
      let r5 : Int := stDigits s4
      cond (decide ((6 : Int) ≤ ((s.size : Nat) : Int))) (
      let s6 : ByteArray := s.extract 6 s.size
      cond (decide (2 ≤ s6.size)) (
      let r7 : Int := stDigits s6
      cond (decide ((8 : Int) ≤ ((s.size : Nat) : Int))) (
      let s8 : ByteArray := s.extract 8 s.size
      cond (decide (2 ≤ s8.size)) (
      let r9 : Int := stDigits s8
      cond (decide ((10 : Int) ≤ ((s.size : Nat) : Int))) (
      let s10 : ByteArray := s.extract 10 s.size
      cond (decide (2 ≤ s10.size)) (
      let r11 : Int := stDigits s10
      cond (decide ((12 : Int) ≤ ((s.size : Nat) : Int))) (
      let s12 : ByteArray := s.extract 12 s.size
      cond (decide (2 ≤ s12.size)) (
      let r13 : Int := stDigits s12
      cond (decide (2 ≤ s.size)) (
      let r14 : Int := stDigits s
      let x15 : Int := IntKind.i64.wrap ((100 : Int) * r14)
      let x16 : Int := IntKind.i64.wrap (r3 + x15)
      let r17 : Bool := stFit x16 r5 r7 r9 r11 r13
      cond (!r17) (
        some (.ret [.cl (.int .i64 0), .cl (.int .i64 1)] []))
      (
        cond (stFit x16 r5 r7 r9 r11 r13) (
        let r18 : Int := stSecs x16 r5 r7 r9 r11 r13
        some (.ret [.cl (.int .i64 r18), .cl (.int .i64 0)] [])) none)) none) none) none) none) none) none) none) none) none) none) none) none) none)) none)
theorem gSRead_eq (s : ByteArray) : bodyK Try.prog ESRead 40 false Try.f7 [.cl (.str s)] [] = gSRead s := by kernel_rfl
end Go.Proofs.YtpdkenjphnlbdaaA

/-
  What the reading of apostille/apostilleref03.leap comes to, printed by a program. Conditions: none.
-/
set_option linter.unusedVariables false
set_option linter.unusedSimpArgs false
set_option maxRecDepth 100000
namespace Go.Proofs.YtpdkenjphnlbdaaA
noncomputable def ERLeap : Env := {
  orc := fun _ => fun _ _ => none
  pre := fun _ => fun _ _ => true
  byref := fun _ => []
  keep := fun _ => false
  live := fun _ => []
  ren := fun _ => []
  glob := fun _ => none
  nt := 16
  lp := fun _ => none }
theorem loopsRLeap : ∀ c, Try.f22.body = some c → LoopsOk Try.prog ERLeap 40 c := by
  intro c hc
  cases hc
  exact ⟨trivial, ⟨trivial, trivial⟩⟩
noncomputable def gRLeap (y : Int) : Option Out :=
  let x1 : Int := Int.tmod y 4
  cond (decide (x1 = 0)) (
    let x2 : Int := Int.tmod y 100
    cond (!decide (x2 = 0)) (
      some (.ret [.cl (.bool true)] []))
    (
      let x3 : Int := Int.tmod y 400
      some (.ret [.cl (.bool (decide (x3 = 0)))] [])))
  (
    let x4 : Int := Int.tmod y 400
    some (.ret [.cl (.bool (decide (x4 = 0)))] []))
theorem gRLeap_eq (y : Int) : bodyK Try.prog ERLeap 40 false Try.f22 [.cl (.int .i64 y)] [] = gRLeap y := by kernel_rfl
end Go.Proofs.YtpdkenjphnlbdaaA

/-
  What the reading of apostille/apostilleref03.Days comes to, printed by a program. Conditions: none.
-/
set_option linter.unusedVariables false
set_option linter.unusedSimpArgs false
set_option maxRecDepth 100000
namespace Go.Proofs.YtpdkenjphnlbdaaA
noncomputable def ERDays : Env := {
  orc := fun g => cond (Nat.beq g 22) (SRLeap) (fun _ _ => none)
  pre := fun g => cond (Nat.beq g 22) (preRLeap) (fun _ _ => true)
  byref := fun _ => []
  keep := fun _ => false
  live := fun _ => []
  ren := fun _ => []
  glob := fun _ => none
  nt := 29
  lp := fun _ => none }
theorem loopsRDays : ∀ c, Try.f12.body = some c → LoopsOk Try.prog ERDays 40 c := by
  intro c hc
  cases hc
  exact ⟨trivial, ⟨⟨trivial, ⟨⟨trivial, trivial⟩, trivial⟩⟩, ⟨⟨trivial, ⟨trivial, ⟨⟨⟨trivial, ⟨⟨trivial, trivial⟩, trivial⟩⟩, ⟨trivial, trivial⟩⟩, ⟨⟨trivial, ⟨trivial, ⟨trivial, ⟨trivial, ⟨trivial, ⟨trivial, trivial⟩⟩⟩⟩⟩⟩, ⟨⟨trivial, trivial⟩, trivial⟩⟩⟩⟩⟩, ⟨trivial, trivial⟩⟩⟩⟩
noncomputable def gRDays (y : Int) (m : Int) : Option Out :=
  cond (decide (y < 1)) (
    some (.ret [.cl (.int .i64 0)] []))
  (
    cond (decide ((9999 : Int) < y)) (
      some (.ret [.cl (.int .i64 0)] []))
    (
      cond (decide (m < 1)) (
        some (.ret [.cl (.int .i64 0)] []))
      (
        cond (decide ((12 : Int) < m)) (
          some (.ret [.cl (.int .i64 0)] []))
        (
          cond (decide (m = 2)) (
            cond (stOk y) (
            let r1 : Bool := stLeap y
            cond (r1) (
              some (.ret [.cl (.int .i64 29)] []))
            (
              some (.ret [.cl (.int .i64 28)] []))) none)
          (
            cond (decide (m = 4)) (
              some (.ret [.cl (.int .i64 30)] []))
            (
              cond (decide (m = 6)) (
                some (.ret [.cl (.int .i64 30)] []))
              (
                cond (decide (m = 9)) (
                  some (.ret [.cl (.int .i64 30)] []))
                (
                  cond (decide (m = 11)) (
                    some (.ret [.cl (.int .i64 30)] []))
                  (
                    some (.ret [.cl (.int .i64 31)] []))))))))))
theorem gRDays_eq (y : Int) (m : Int) : bodyK Try.prog ERDays 40 false Try.f12 [.cl (.int .i64 y), .cl (.int .i64 m)] [] = gRDays y m := by kernel_rfl
end Go.Proofs.YtpdkenjphnlbdaaA

/-
  What the reading of apostille/apostilleref03.years comes to, printed by a program. Conditions: none.
-/
set_option linter.unusedVariables false
set_option linter.unusedSimpArgs false
set_option maxRecDepth 100000
namespace Go.Proofs.YtpdkenjphnlbdaaA
noncomputable def ERYears : Env := {
  orc := fun _ => fun _ _ => none
  pre := fun _ => fun _ _ => true
  byref := fun _ => []
  keep := fun _ => false
  live := fun _ => []
  ren := fun _ => []
  glob := fun _ => none
  nt := 19
  lp := fun _ => none }
theorem loopsRYears : ∀ c, Try.f17.body = some c → LoopsOk Try.prog ERYears 40 c := by
  intro c hc
  cases hc
  exact ⟨trivial, ⟨trivial, ⟨trivial, ⟨trivial, ⟨trivial, trivial⟩⟩⟩⟩⟩
noncomputable def gRYears (y : Int) : Option Out :=
  let x1 : Int := IntKind.i64.wrap (y - 1)
  let x2 : Int := IntKind.i64.wrap (x1 * 365)
  let x3 : Int := IntKind.i64.wrap (Int.tdiv x1 4)
  let x4 : Int := IntKind.i64.wrap (x2 + x3)
  let x5 : Int := IntKind.i64.wrap (Int.tdiv x1 100)
  let x6 : Int := IntKind.i64.wrap (x4 - x5)
  let x7 : Int := IntKind.i64.wrap (Int.tdiv x1 400)
  let x8 : Int := IntKind.i64.wrap (x6 + x7)
  some (.ret [.cl (.int .i64 x8)] [])
theorem gRYears_eq (y : Int) : bodyK Try.prog ERYears 40 false Try.f17 [.cl (.int .i64 y)] [] = gRYears y := by kernel_rfl
end Go.Proofs.YtpdkenjphnlbdaaA

/-
  What the reading of apostille/apostilleref03.two comes to, printed by a program. Conditions: none.
-/
set_option linter.unusedVariables false
set_option linter.unusedSimpArgs false
set_option maxRecDepth 100000
namespace Go.Proofs.YtpdkenjphnlbdaaA
noncomputable def ERTwo : Env := {
  orc := fun _ => fun _ _ => none
  pre := fun _ => fun _ _ => true
  byref := fun _ => []
  keep := fun _ => false
  live := fun _ => []
  ren := fun _ => []
  glob := fun _ => none
  nt := 14
  lp := fun _ => none }
theorem loopsRTwo : ∀ c, Try.f20.body = some c → LoopsOk Try.prog ERTwo 40 c := by
  intro c hc
  cases hc
  exact ⟨trivial, ⟨trivial, trivial⟩⟩
noncomputable def gRTwo (n : Int) : Option Out :=
  let x1 : Int := IntKind.i64.wrap (Int.tdiv n 10)
  let x2 : Int := Int.tmod x1 10
  let x3 : Int := IntKind.i64.wrap ((48 : Int) + x2)
  let x4 : Int := IntKind.u8.wrap x3
  let x5 : Int := Int.tmod n 10
  let x6 : Int := IntKind.i64.wrap ((48 : Int) + x5)
  let x7 : Int := IntKind.u8.wrap x6
  let s8 : ByteArray := strOf [x4, x7]
  some (.ret [.cl (.str s8)] [])
theorem gRTwo_eq (n : Int) : bodyK Try.prog ERTwo 40 false Try.f20 [.cl (.int .i64 n)] [] = gRTwo n := by kernel_rfl
end Go.Proofs.YtpdkenjphnlbdaaA

/-
  What the reading of apostille/apostilleref03.number comes to, printed by a program. Conditions: none.
-/
set_option linter.unusedVariables false
set_option linter.unusedSimpArgs false
set_option maxRecDepth 100000
namespace Go.Proofs.YtpdkenjphnlbdaaA
noncomputable def lpRNumber_3s (again : ByteArray → Int → Int → Option Out) (k0 : ByteArray → Int → Int → Int → ByteArray → Int → ByteArray → Int → Int → Bool → Option Out) (k1 : ByteArray → Int → Int → Int → ByteArray → Int → ByteArray → Int → Int → Bool → ByteArray → Int → Int → Bool → Option Out) (k2 : ByteArray → Int → Int → Int → ByteArray → Int → Option Out) (v1 : ByteArray) (v2 : Int) (v3 : Int) : Option Out :=
  cond (decide (v3 < ((v1.size : Nat) : Int))) (
    cond (decide ((0 : Int) ≤ v3)) (
    cond (decide (v3 < ((v1.size : Nat) : Int))) (
    let x1 : Int := bget v1 v3
    cond (decide (x1 < 48)) (
      k0 v1 v2 v3 v3 v1 ((v1.size : Nat) : Int) v1 v3 x1 (decide (x1 < 48)))
    (
      cond (decide ((0 : Int) ≤ v3)) (
      cond (decide (v3 < ((v1.size : Nat) : Int))) (
      let x2 : Int := bget v1 v3
      cond (decide ((57 : Int) < x2)) (
        k1 v1 v2 v3 v3 v1 ((v1.size : Nat) : Int) v1 v3 x1 (decide (x1 < 48)) v1 v3 x2 (decide ((57 : Int) < x2)))
      (
        let x3 : Int := IntKind.i64.wrap (v2 * 10)
        cond (decide ((0 : Int) ≤ v3)) (
        cond (decide (v3 < ((v1.size : Nat) : Int))) (
        let x4 : Int := bget v1 v3
        let x5 : Int := IntKind.u8.wrap (x4 - 48)
        let x6 : Int := IntKind.i64.wrap x5
        let x7 : Int := IntKind.i64.wrap (x3 + x6)
        let x8 : Int := IntKind.i64.wrap (v3 + 1)
        again v1 x7 x8) none) none)) none) none)) none) none)
  (
    k2 v1 v2 v3 v3 v1 ((v1.size : Nat) : Int))
noncomputable def lpRNumber_3 (k0 : ByteArray → Int → Int → Int → ByteArray → Int → ByteArray → Int → Int → Bool → Option Out) (k1 : ByteArray → Int → Int → Int → ByteArray → Int → ByteArray → Int → Int → Bool → ByteArray → Int → Int → Bool → Option Out) (k2 : ByteArray → Int → Int → Int → ByteArray → Int → Option Out) : Nat → ByteArray → Int → Int → Option Out
  | 0 => fun _ _ _ => none
  | n + 1 => lpRNumber_3s (lpRNumber_3 k0 k1 k2 n) k0 k1 k2
noncomputable def LRNumber_3 : St → (Ex → St → Option Out) → Option Out := fun σ k => match σ with
  | ⟨[(q1, .cl (.str v1)), (q2, .cl (.int .i64 v2)), (q3, .cl (.int .i64 v3))], []⟩ => cond (Nat.beq q1 0 && Nat.beq q2 3 && Nat.beq q3 4) (shut (lpRNumber_3 (fun y1 y2 y3 y4 y5 y6 y7 y8 y9 y10 => k .ret ⟨[(0, .cl (.str y1)), (2, .cl (.int .i64 (-1))), (3, .cl (.int .i64 y2)), (4, .cl (.int .i64 y3)), (5, .cl (.int .i64 y4)), (6, .cl (.str y5)), (7, .cl (.int .i64 y6)), (8, .cl (.bool true)), (11, .cl (.str y7)), (12, .cl (.int .i64 y8)), (13, .cl (.int .u8 y9)), (14, .cl (.bool y10)), (15, .cl (.bool true)), (16, .tup []), (17, .tup []), (18, .tup []), (19, .tup []), (20, .cl (.bool true))], []⟩) (fun y1 y2 y3 y4 y5 y6 y7 y8 y9 y10 y11 y12 y13 y14 => k .ret ⟨[(0, .cl (.str y1)), (2, .cl (.int .i64 (-1))), (3, .cl (.int .i64 y2)), (4, .cl (.int .i64 y3)), (5, .cl (.int .i64 y4)), (6, .cl (.str y5)), (7, .cl (.int .i64 y6)), (8, .cl (.bool true)), (11, .cl (.str y7)), (12, .cl (.int .i64 y8)), (13, .cl (.int .u8 y9)), (14, .cl (.bool y10)), (15, .cl (.bool false)), (16, .cl (.str y11)), (17, .cl (.int .i64 y12)), (18, .cl (.int .u8 y13)), (19, .cl (.bool y14)), (20, .cl (.bool true))], []⟩) (fun y1 y2 y3 y4 y5 y6 => k (.exit 0) ⟨[(0, .cl (.str y1)), (3, .cl (.int .i64 y2)), (4, .cl (.int .i64 y3)), (5, .cl (.int .i64 y4)), (6, .cl (.str y5)), (7, .cl (.int .i64 y6)), (8, .cl (.bool false))], []⟩) FUEL) v1 v2 v3) none
  | _ => none
noncomputable def ERNumber : Env := {
  orc := fun _ => fun _ _ => none
  pre := fun _ => fun _ _ => true
  byref := fun _ => []
  keep := fun _ => false
  live := fun r => cond (Nat.beq r 3) ([0, 3, 4]) ([])
  ren := fun _ => []
  glob := fun _ => none
  nt := 30
  lp := fun r => cond (Nat.beq r 3) (some LRNumber_3) (none) }
noncomputable def blpRNumber_3 : Code := (Cd.fst (Cd.fst (Cd.snd (Cd.fst (Cd.snd (Cd.snd (Try.f16.body.getD .skip)))))))
theorem lpRNumber_3_step (k : Ex → St → Option Out) (n : Nat) (v1 : ByteArray) (v2 : Int) (v3 : Int) : iterK (n + 1) (codeK Try.prog ERNumber 40 blpRNumber_3) (head ERNumber 3) ⟨[(0, .cl (.str v1)), (3, .cl (.int .i64 v2)), (4, .cl (.int .i64 v3))], []⟩ k = lpRNumber_3s (fun v1 v2 v3 => iterK n (codeK Try.prog ERNumber 40 blpRNumber_3) (head ERNumber 3) ⟨[(0, .cl (.str v1)), (3, .cl (.int .i64 v2)), (4, .cl (.int .i64 v3))], []⟩ k) (fun y1 y2 y3 y4 y5 y6 y7 y8 y9 y10 => k .ret ⟨[(0, .cl (.str y1)), (2, .cl (.int .i64 (-1))), (3, .cl (.int .i64 y2)), (4, .cl (.int .i64 y3)), (5, .cl (.int .i64 y4)), (6, .cl (.str y5)), (7, .cl (.int .i64 y6)), (8, .cl (.bool true)), (11, .cl (.str y7)), (12, .cl (.int .i64 y8)), (13, .cl (.int .u8 y9)), (14, .cl (.bool y10)), (15, .cl (.bool true)), (16, .tup []), (17, .tup []), (18, .tup []), (19, .tup []), (20, .cl (.bool true))], []⟩) (fun y1 y2 y3 y4 y5 y6 y7 y8 y9 y10 y11 y12 y13 y14 => k .ret ⟨[(0, .cl (.str y1)), (2, .cl (.int .i64 (-1))), (3, .cl (.int .i64 y2)), (4, .cl (.int .i64 y3)), (5, .cl (.int .i64 y4)), (6, .cl (.str y5)), (7, .cl (.int .i64 y6)), (8, .cl (.bool true)), (11, .cl (.str y7)), (12, .cl (.int .i64 y8)), (13, .cl (.int .u8 y9)), (14, .cl (.bool y10)), (15, .cl (.bool false)), (16, .cl (.str y11)), (17, .cl (.int .i64 y12)), (18, .cl (.int .u8 y13)), (19, .cl (.bool y14)), (20, .cl (.bool true))], []⟩) (fun y1 y2 y3 y4 y5 y6 => k (.exit 0) ⟨[(0, .cl (.str y1)), (3, .cl (.int .i64 y2)), (4, .cl (.int .i64 y3)), (5, .cl (.int .i64 y4)), (6, .cl (.str y5)), (7, .cl (.int .i64 y6)), (8, .cl (.bool false))], []⟩) v1 v2 v3 := by kernel_rfl
theorem lpRNumber_3_eq (k : Ex → St → Option Out) : ∀ (n : Nat), ∀ (v1 : ByteArray) (v2 : Int) (v3 : Int), iterK n (codeK Try.prog ERNumber 40 blpRNumber_3) (head ERNumber 3) ⟨[(0, .cl (.str v1)), (3, .cl (.int .i64 v2)), (4, .cl (.int .i64 v3))], []⟩ k = lpRNumber_3 (fun y1 y2 y3 y4 y5 y6 y7 y8 y9 y10 => k .ret ⟨[(0, .cl (.str y1)), (2, .cl (.int .i64 (-1))), (3, .cl (.int .i64 y2)), (4, .cl (.int .i64 y3)), (5, .cl (.int .i64 y4)), (6, .cl (.str y5)), (7, .cl (.int .i64 y6)), (8, .cl (.bool true)), (11, .cl (.str y7)), (12, .cl (.int .i64 y8)), (13, .cl (.int .u8 y9)), (14, .cl (.bool y10)), (15, .cl (.bool true)), (16, .tup []), (17, .tup []), (18, .tup []), (19, .tup []), (20, .cl (.bool true))], []⟩) (fun y1 y2 y3 y4 y5 y6 y7 y8 y9 y10 y11 y12 y13 y14 => k .ret ⟨[(0, .cl (.str y1)), (2, .cl (.int .i64 (-1))), (3, .cl (.int .i64 y2)), (4, .cl (.int .i64 y3)), (5, .cl (.int .i64 y4)), (6, .cl (.str y5)), (7, .cl (.int .i64 y6)), (8, .cl (.bool true)), (11, .cl (.str y7)), (12, .cl (.int .i64 y8)), (13, .cl (.int .u8 y9)), (14, .cl (.bool y10)), (15, .cl (.bool false)), (16, .cl (.str y11)), (17, .cl (.int .i64 y12)), (18, .cl (.int .u8 y13)), (19, .cl (.bool y14)), (20, .cl (.bool true))], []⟩) (fun y1 y2 y3 y4 y5 y6 => k (.exit 0) ⟨[(0, .cl (.str y1)), (3, .cl (.int .i64 y2)), (4, .cl (.int .i64 y3)), (5, .cl (.int .i64 y4)), (6, .cl (.str y5)), (7, .cl (.int .i64 y6)), (8, .cl (.bool false))], []⟩) n v1 v2 v3
  | 0 => by intros; rfl
  | n + 1 => by
    intros
    rw [lpRNumber_3_step]
    have ih := lpRNumber_3_eq k n
    simp only [lpRNumber_3, ih]
theorem LRNumber_3_ok : ∀ (σ : St) (k : Ex → St → Option Out) (r : Out), LRNumber_3 σ k = some r → ∃ n, iterK n (codeK Try.prog ERNumber 40 blpRNumber_3) (head ERNumber 3) σ k = some r := by
  intro σ k r h
  unfold LRNumber_3 at h
  split at h
  · obtain ⟨hc, h⟩ := cond_some h
    simp only [Bool.and_eq_true, beq_prop, decide_eq_true_eq, Bool.not_eq_true'] at hc
    obtain ⟨⟨rfl, rfl⟩, rfl⟩ := hc
    rw [shut_eq] at h
    exact ⟨FUEL, (lpRNumber_3_eq k FUEL _ _ _ ).trans h⟩
  · cases h
theorem loopsRNumber : ∀ c, Try.f16.body = some c → LoopsOk Try.prog ERNumber 40 c := by
  intro c hc
  cases hc
  exact ⟨trivial, ⟨trivial, ⟨⟨trivial, ⟨⟨⟨trivial, ⟨trivial, trivial⟩⟩, ⟨⟨⟨trivial, ⟨⟨trivial, trivial⟩, trivial⟩⟩, trivial⟩, trivial⟩⟩, lp_some rfl LRNumber_3_ok⟩⟩, ⟨trivial, trivial⟩⟩⟩⟩
noncomputable def gRNumber (s : ByteArray) : Option Out :=
  shut (lpRNumber_3
  (fun (y1 : ByteArray) (y2 : Int) (y3 : Int) (y4 : Int) (y5 : ByteArray) (y6 : Int) (y7 : ByteArray) (y8 : Int) (y9 : Int) (y10 : Bool) =>
    some (.ret [.cl (.int .i64 (-1))] []))
  (fun (y11 : ByteArray) (y12 : Int) (y13 : Int) (y14 : Int) (y15 : ByteArray) (y16 : Int) (y17 : ByteArray) (y18 : Int) (y19 : Int) (y20 : Bool) (y21 : ByteArray) (y22 : Int) (y23 : Int) (y24 : Bool) =>
    some (.ret [.cl (.int .i64 (-1))] []))
  (fun (y25 : ByteArray) (y26 : Int) (y27 : Int) (y28 : Int) (y29 : ByteArray) (y30 : Int) =>
    some (.ret [.cl (.int .i64 y26)] []))
  FUEL) s 0 0
theorem gRNumber_eq (s : ByteArray) : bodyK Try.prog ERNumber 40 false Try.f16 [.cl (.str s)] [] = gRNumber s := by kernel_rfl
end Go.Proofs.YtpdkenjphnlbdaaA

/-
  What the reading of apostille/apostilleref03.Text comes to, printed by a program. Conditions: none.
-/
set_option linter.unusedVariables false
set_option linter.unusedSimpArgs false
set_option maxRecDepth 100000
namespace Go.Proofs.YtpdkenjphnlbdaaA
noncomputable def lpRText_7s (again : Int → Int → Int → Int → Option Out) (k0 : Int → Int → Int → Int → Int → Option Out) (v1 : Int) (v2 : Int) (v3 : Int) (v4 : Int) : Option Out :=
  cond (decide ((1 : Int) ≤ v4)) (
    let x5 : Int := IntKind.i64.wrap (v3 + v4)
    cond (decide (x5 ≤ 9999)) (
      let x6 : Int := IntKind.i64.wrap (v3 + v4)
      cond (stOk x6) (
      let r7 : Int := stYears x6
      cond (decide (r7 ≤ v1)) (
        let x8 : Int := IntKind.i64.wrap (v3 + v4)
        let x9 : Int := IntKind.i64.wrap (Int.tdiv v4 2)
        again v1 v2 x8 x9)
      (
        let x10 : Int := IntKind.i64.wrap (Int.tdiv v4 2)
        again v1 v2 v3 x10)) none)
    (
      let x11 : Int := IntKind.i64.wrap (Int.tdiv v4 2)
      again v1 v2 v3 x11))
  (
    k0 v1 v2 v3 v4 v4)
noncomputable def lpRText_7 (k0 : Int → Int → Int → Int → Int → Option Out) : Nat → Int → Int → Int → Int → Option Out
  | 0 => fun _ _ _ _ => none
  | n + 1 => lpRText_7s (lpRText_7 k0 n) k0
noncomputable def lpRText_13s (again : Int → Int → Int → Int → Option Out) (k0 : Int → Int → Int → Int → Int → Bool → Int → Int → Int → Int → Bool → Option Out) (k1 : Int → Int → Int → Int → Int → Bool → Option Out) (v1 : Int) (v2 : Int) (v3 : Int) (v4 : Int) : Option Out :=
  cond (decide (v4 < 12)) (
    let r12 : Int := stMonth v3 v4
    cond (decide (r12 ≤ v1)) (
      let r13 : Int := stMonth v3 v4
      let x14 : Int := IntKind.i64.wrap (v1 - r13)
      let x15 : Int := IntKind.i64.wrap (v4 + 1)
      again x14 v2 v3 x15)
    (
      k0 v1 v2 v3 v4 v4 (decide (v4 < 12)) v1 v3 v4 r12 (decide (r12 ≤ v1))))
  (
    k1 v1 v2 v3 v4 v4 (decide (v4 < 12)))
noncomputable def lpRText_13 (k0 : Int → Int → Int → Int → Int → Bool → Int → Int → Int → Int → Bool → Option Out) (k1 : Int → Int → Int → Int → Int → Bool → Option Out) : Nat → Int → Int → Int → Int → Option Out
  | 0 => fun _ _ _ _ => none
  | n + 1 => lpRText_13s (lpRText_13 k0 k1 n) k0 k1
noncomputable def LRText_7 : St → (Ex → St → Option Out) → Option Out := fun σ k => match σ with
  | ⟨[(q1, .cl (.int .i64 v1)), (q2, .cl (.int .i64 v2)), (q3, .cl (.int .i64 v3)), (q4, .cl (.int .i64 v4))], []⟩ => cond (Nat.beq q1 3 && Nat.beq q2 4 && Nat.beq q3 5 && Nat.beq q4 6) (shut (lpRText_7 (fun y1 y2 y3 y4 y5 => k (.exit 0) ⟨[(3, .cl (.int .i64 y1)), (4, .cl (.int .i64 y2)), (5, .cl (.int .i64 y3)), (6, .cl (.int .i64 y4)), (20, .cl (.int .i64 y5)), (21, .cl (.bool false))], []⟩) FUEL) v1 v2 v3 v4) none
  | _ => none
noncomputable def LRText_13 : St → (Ex → St → Option Out) → Option Out := fun σ k => match σ with
  | ⟨[(q1, .cl (.int .i64 v1)), (q2, .cl (.int .i64 v2)), (q3, .cl (.int .i64 v3)), (q4, .cl (.int .i64 v4))], []⟩ => cond (Nat.beq q1 3 && Nat.beq q2 4 && Nat.beq q3 5 && Nat.beq q4 7) (shut (lpRText_13 (fun y1 y2 y3 y4 y5 y6 y7 y8 y9 y10 y11 => k (.exit 2) ⟨[(3, .cl (.int .i64 y1)), (4, .cl (.int .i64 y2)), (5, .cl (.int .i64 y3)), (7, .cl (.int .i64 y4)), (43, .cl (.int .i64 y5)), (44, .cl (.bool y6)), (45, .cl (.bool true)), (46, .cl (.int .i64 y7)), (47, .cl (.int .i64 y8)), (48, .cl (.int .i64 y9)), (49, .cl (.int .i64 y10)), (50, .cl (.bool y11)), (51, .cl (.bool false))], []⟩) (fun y1 y2 y3 y4 y5 y6 => k (.exit 2) ⟨[(3, .cl (.int .i64 y1)), (4, .cl (.int .i64 y2)), (5, .cl (.int .i64 y3)), (7, .cl (.int .i64 y4)), (43, .cl (.int .i64 y5)), (44, .cl (.bool y6)), (45, .cl (.bool false)), (46, .tup []), (47, .tup []), (48, .tup []), (49, .tup []), (50, .tup []), (51, .cl (.bool false))], []⟩) FUEL) v1 v2 v3 v4) none
  | _ => none
noncomputable def ERText : Env := {
  orc := fun g => cond (Nat.beq g 12) (SRDays) (cond (Nat.beq g 17) (SRYears) (cond (Nat.beq g 20) (SRTwo) (fun _ _ => none)))
  pre := fun g => cond (Nat.beq g 12) (preRDays) (cond (Nat.beq g 17) (preRYears) (cond (Nat.beq g 20) (preRTwo) (fun _ _ => true)))
  byref := fun _ => []
  keep := fun _ => false
  live := fun r => cond (Nat.beq r 7) ([3, 4, 5, 6]) (cond (Nat.beq r 13) ([3, 4, 5, 7]) ([]))
  ren := fun _ => []
  glob := fun _ => none
  nt := 87
  lp := fun r => cond (Nat.beq r 7) (some LRText_7) (cond (Nat.beq r 13) (some LRText_13) (none)) }
noncomputable def blpRText_7 : Code := (Cd.fst (Cd.fst (Cd.snd (Cd.fst (Cd.snd (Cd.snd (Cd.snd (Cd.snd (Cd.snd (Try.f10.body.getD .skip))))))))))
theorem lpRText_7_step (k : Ex → St → Option Out) (n : Nat) (v1 : Int) (v2 : Int) (v3 : Int) (v4 : Int) : iterK (n + 1) (codeK Try.prog ERText 40 blpRText_7) (head ERText 7) ⟨[(3, .cl (.int .i64 v1)), (4, .cl (.int .i64 v2)), (5, .cl (.int .i64 v3)), (6, .cl (.int .i64 v4))], []⟩ k = lpRText_7s (fun v1 v2 v3 v4 => iterK n (codeK Try.prog ERText 40 blpRText_7) (head ERText 7) ⟨[(3, .cl (.int .i64 v1)), (4, .cl (.int .i64 v2)), (5, .cl (.int .i64 v3)), (6, .cl (.int .i64 v4))], []⟩ k) (fun y1 y2 y3 y4 y5 => k (.exit 0) ⟨[(3, .cl (.int .i64 y1)), (4, .cl (.int .i64 y2)), (5, .cl (.int .i64 y3)), (6, .cl (.int .i64 y4)), (20, .cl (.int .i64 y5)), (21, .cl (.bool false))], []⟩) v1 v2 v3 v4 := by kernel_rfl
theorem lpRText_7_eq (k : Ex → St → Option Out) : ∀ (n : Nat), ∀ (v1 : Int) (v2 : Int) (v3 : Int) (v4 : Int), iterK n (codeK Try.prog ERText 40 blpRText_7) (head ERText 7) ⟨[(3, .cl (.int .i64 v1)), (4, .cl (.int .i64 v2)), (5, .cl (.int .i64 v3)), (6, .cl (.int .i64 v4))], []⟩ k = lpRText_7 (fun y1 y2 y3 y4 y5 => k (.exit 0) ⟨[(3, .cl (.int .i64 y1)), (4, .cl (.int .i64 y2)), (5, .cl (.int .i64 y3)), (6, .cl (.int .i64 y4)), (20, .cl (.int .i64 y5)), (21, .cl (.bool false))], []⟩) n v1 v2 v3 v4
  | 0 => by intros; rfl
  | n + 1 => by
    intros
    rw [lpRText_7_step]
    have ih := lpRText_7_eq k n
    simp only [lpRText_7, ih]
noncomputable def blpRText_13 : Code := (Cd.fst (Cd.fst (Cd.fst (Cd.snd (Cd.snd (Cd.snd (Cd.snd (Cd.snd (Cd.snd (Cd.snd (Cd.snd (Try.f10.body.getD .skip))))))))))))
theorem lpRText_13_step (k : Ex → St → Option Out) (n : Nat) (v1 : Int) (v2 : Int) (v3 : Int) (v4 : Int) : iterK (n + 1) (codeK Try.prog ERText 40 blpRText_13) (head ERText 13) ⟨[(3, .cl (.int .i64 v1)), (4, .cl (.int .i64 v2)), (5, .cl (.int .i64 v3)), (7, .cl (.int .i64 v4))], []⟩ k = lpRText_13s (fun v1 v2 v3 v4 => iterK n (codeK Try.prog ERText 40 blpRText_13) (head ERText 13) ⟨[(3, .cl (.int .i64 v1)), (4, .cl (.int .i64 v2)), (5, .cl (.int .i64 v3)), (7, .cl (.int .i64 v4))], []⟩ k) (fun y1 y2 y3 y4 y5 y6 y7 y8 y9 y10 y11 => k (.exit 2) ⟨[(3, .cl (.int .i64 y1)), (4, .cl (.int .i64 y2)), (5, .cl (.int .i64 y3)), (7, .cl (.int .i64 y4)), (43, .cl (.int .i64 y5)), (44, .cl (.bool y6)), (45, .cl (.bool true)), (46, .cl (.int .i64 y7)), (47, .cl (.int .i64 y8)), (48, .cl (.int .i64 y9)), (49, .cl (.int .i64 y10)), (50, .cl (.bool y11)), (51, .cl (.bool false))], []⟩) (fun y1 y2 y3 y4 y5 y6 => k (.exit 2) ⟨[(3, .cl (.int .i64 y1)), (4, .cl (.int .i64 y2)), (5, .cl (.int .i64 y3)), (7, .cl (.int .i64 y4)), (43, .cl (.int .i64 y5)), (44, .cl (.bool y6)), (45, .cl (.bool false)), (46, .tup []), (47, .tup []), (48, .tup []), (49, .tup []), (50, .tup []), (51, .cl (.bool false))], []⟩) v1 v2 v3 v4 := by kernel_rfl
theorem lpRText_13_eq (k : Ex → St → Option Out) : ∀ (n : Nat), ∀ (v1 : Int) (v2 : Int) (v3 : Int) (v4 : Int), iterK n (codeK Try.prog ERText 40 blpRText_13) (head ERText 13) ⟨[(3, .cl (.int .i64 v1)), (4, .cl (.int .i64 v2)), (5, .cl (.int .i64 v3)), (7, .cl (.int .i64 v4))], []⟩ k = lpRText_13 (fun y1 y2 y3 y4 y5 y6 y7 y8 y9 y10 y11 => k (.exit 2) ⟨[(3, .cl (.int .i64 y1)), (4, .cl (.int .i64 y2)), (5, .cl (.int .i64 y3)), (7, .cl (.int .i64 y4)), (43, .cl (.int .i64 y5)), (44, .cl (.bool y6)), (45, .cl (.bool true)), (46, .cl (.int .i64 y7)), (47, .cl (.int .i64 y8)), (48, .cl (.int .i64 y9)), (49, .cl (.int .i64 y10)), (50, .cl (.bool y11)), (51, .cl (.bool false))], []⟩) (fun y1 y2 y3 y4 y5 y6 => k (.exit 2) ⟨[(3, .cl (.int .i64 y1)), (4, .cl (.int .i64 y2)), (5, .cl (.int .i64 y3)), (7, .cl (.int .i64 y4)), (43, .cl (.int .i64 y5)), (44, .cl (.bool y6)), (45, .cl (.bool false)), (46, .tup []), (47, .tup []), (48, .tup []), (49, .tup []), (50, .tup []), (51, .cl (.bool false))], []⟩) n v1 v2 v3 v4
  | 0 => by intros; rfl
  | n + 1 => by
    intros
    rw [lpRText_13_step]
    have ih := lpRText_13_eq k n
    simp only [lpRText_13, ih]
theorem LRText_7_ok : ∀ (σ : St) (k : Ex → St → Option Out) (r : Out), LRText_7 σ k = some r → ∃ n, iterK n (codeK Try.prog ERText 40 blpRText_7) (head ERText 7) σ k = some r := by
  intro σ k r h
  unfold LRText_7 at h
  split at h
  · obtain ⟨hc, h⟩ := cond_some h
    simp only [Bool.and_eq_true, beq_prop, decide_eq_true_eq, Bool.not_eq_true'] at hc
    obtain ⟨⟨⟨rfl, rfl⟩, rfl⟩, rfl⟩ := hc
    rw [shut_eq] at h
    exact ⟨FUEL, (lpRText_7_eq k FUEL _ _ _ _ ).trans h⟩
  · cases h
theorem LRText_13_ok : ∀ (σ : St) (k : Ex → St → Option Out) (r : Out), LRText_13 σ k = some r → ∃ n, iterK n (codeK Try.prog ERText 40 blpRText_13) (head ERText 13) σ k = some r := by
  intro σ k r h
  unfold LRText_13 at h
  split at h
  · obtain ⟨hc, h⟩ := cond_some h
    simp only [Bool.and_eq_true, beq_prop, decide_eq_true_eq, Bool.not_eq_true'] at hc
    obtain ⟨⟨⟨rfl, rfl⟩, rfl⟩, rfl⟩ := hc
    rw [shut_eq] at h
    exact ⟨FUEL, (lpRText_13_eq k FUEL _ _ _ _ ).trans h⟩
  · cases h
theorem loopsRText : ∀ c, Try.f10.body = some c → LoopsOk Try.prog ERText 40 c := by
  intro c hc
  cases hc
  exact ⟨trivial, ⟨⟨trivial, ⟨⟨trivial, trivial⟩, trivial⟩⟩, ⟨trivial, ⟨trivial, ⟨trivial, ⟨⟨trivial, ⟨⟨⟨trivial, ⟨trivial, trivial⟩⟩, ⟨⟨trivial, ⟨trivial, trivial⟩⟩, trivial⟩⟩, lp_some rfl LRText_7_ok⟩⟩, ⟨trivial, ⟨trivial, ⟨⟨⟨⟨trivial, ⟨trivial, trivial⟩⟩, ⟨trivial, trivial⟩⟩, lp_some rfl LRText_13_ok⟩, ⟨trivial, trivial⟩⟩⟩⟩⟩⟩⟩⟩⟩⟩
noncomputable def gRText (t : Int) : Option Out :=
  cond (decide (t < (-62135596800))) (
    some (.ret [.cl (.str (⟨#[]⟩ : ByteArray))] []))
  (
    cond (decide ((253402300799 : Int) < t)) (
      some (.ret [.cl (.str (⟨#[]⟩ : ByteArray))] []))
    (
      let x1 : Int := IntKind.i64.wrap (t - (-62135596800))
      let x2 : Int := IntKind.i64.wrap (Int.tdiv x1 86400)
      let x3 : Int := IntKind.i64.wrap (t - (-62135596800))
      let x4 : Int := Int.tmod x3 86400
      shut (lpRText_7
      (fun (y5 : Int) (y6 : Int) (y7 : Int) (y8 : Int) (y9 : Int) =>
        cond (stOk y7) (
        let r10 : Int := stYears y7
        let x11 : Int := IntKind.i64.wrap (y5 - r10)
        shut (lpRText_13
        (fun (y12 : Int) (y13 : Int) (y14 : Int) (y15 : Int) (y16 : Int) (y17 : Bool) (y18 : Int) (y19 : Int) (y20 : Int) (y21 : Int) (y22 : Bool) =>
          let x23 : Int := IntKind.i64.wrap (Int.tdiv y14 100)
          let r24 : ByteArray := strOf (stTwo x23)
          let x25 : Int := Int.tmod y14 100
          let r26 : ByteArray := strOf (stTwo x25)
          cond (decide (((r24.size + r26.size : Nat) : Int) ≤ LIM)) (
          let s27 : ByteArray := r24 ++ r26
          let r28 : ByteArray := strOf (stTwo y15)
          cond (decide (((s27.size + r28.size : Nat) : Int) ≤ LIM)) (
          let s29 : ByteArray := s27 ++ r28
          let x30 : Int := IntKind.i64.wrap (y12 + 1)
          let r31 : ByteArray := strOf (stTwo x30)
          cond (decide (((s29.size + r31.size : Nat) : Int) ≤ LIM)) (
          let s32 : ByteArray := s29 ++ r31
          let x33 : Int := IntKind.i64.wrap (Int.tdiv y13 3600)
          let r34 : ByteArray := strOf (stTwo x33)
          cond (decide (((s32.size + r34.size : Nat) : Int) ≤ LIM)) (
          let s35 : ByteArray := s32 ++ r34
          let x36 : Int := IntKind.i64.wrap (Int.tdiv y13 60)
          let x37 : Int := Int.tmod x36 60
          let r38 : ByteArray := strOf (stTwo x37)
          cond (decide (((s35.size + r38.size : Nat) : Int) ≤ LIM)) (
          let s39 : ByteArray := s35 ++ r38
          let x40 : Int := Int.tmod y13 60
          let r41 : ByteArray := strOf (stTwo x40)
          cond (decide (((s39.size + r41.size : Nat) : Int) ≤ LIM)) (
          let s42 : ByteArray := s39 ++ r41
          cond (decide (((s42.size + (⟨#[90]⟩ : ByteArray).size : Nat) : Int) ≤ LIM)) (
          let s43 : ByteArray := s42 ++ (⟨#[90]⟩ : ByteArray)
          some (.ret [.cl (.str s43)] [])) none) none) none) none) none) none) none)
        (fun (y44 : Int) (y45 : Int) (y46 : Int) (y47 : Int) (y48 : Int) (y49 : Bool) =>
          let x50 : Int := IntKind.i64.wrap (Int.tdiv y46 100)
          let r51 : ByteArray := strOf (stTwo x50)
          let x52 : Int := Int.tmod y46 100
          let r53 : ByteArray := strOf (stTwo x52)
          cond (decide (((r51.size + r53.size : Nat) : Int) ≤ LIM)) (
          let s54 : ByteArray := r51 ++ r53
          let r55 : ByteArray := strOf (stTwo y47)
          cond (decide (((s54.size + r55.size : Nat) : Int) ≤ LIM)) (
          let s56 : ByteArray := s54 ++ r55
          let x57 : Int := IntKind.i64.wrap (y44 + 1)
          let r58 : ByteArray := strOf (stTwo x57)
          cond (decide (((s56.size + r58.size : Nat) : Int) ≤ LIM)) (
          let s59 : ByteArray := s56 ++ r58
          let x60 : Int := IntKind.i64.wrap (Int.tdiv y45 3600)
          let r61 : ByteArray := strOf (stTwo x60)
          cond (decide (((s59.size + r61.size : Nat) : Int) ≤ LIM)) (
          let s62 : ByteArray := s59 ++ r61
          let x63 : Int := IntKind.i64.wrap (Int.tdiv y45 60)
          let x64 : Int := Int.tmod x63 60
          let r65 : ByteArray := strOf (stTwo x64)
          cond (decide (((s62.size + r65.size : Nat) : Int) ≤ LIM)) (
          let s66 : ByteArray := s62 ++ r65
          let x67 : Int := Int.tmod y45 60
          let r68 : ByteArray := strOf (stTwo x67)
          cond (decide (((s66.size + r68.size : Nat) : Int) ≤ LIM)) (
          let s69 : ByteArray := s66 ++ r68
          cond (decide (((s69.size + (⟨#[90]⟩ : ByteArray).size : Nat) : Int) ≤ LIM)) (
          let s70 : ByteArray := s69 ++ (⟨#[90]⟩ : ByteArray)
          some (.ret [.cl (.str s70)] [])) none) none) none) none) none) none) none)
        FUEL) x11 y6 y7 1) none)
      FUEL) x2 x4 1 8192))
theorem gRText_eq (t : Int) : bodyK Try.prog ERText 40 false Try.f10 [.cl (.int .i64 t)] [] = gRText t := by kernel_rfl
end Go.Proofs.YtpdkenjphnlbdaaA

/-
  What the reading of apostille/apostilleref03.Read comes to, printed by a program. Conditions: none.
-/
set_option linter.unusedVariables false
set_option linter.unusedSimpArgs false
set_option maxRecDepth 100000
namespace Go.Proofs.YtpdkenjphnlbdaaA
noncomputable def lpRRead_13s (again : Int → Int → Int → Int → Int → Int → Int → Option Out) (k0 : Int → Int → Int → Int → Int → Int → Int → Int → Int → Option Out) (v1 : Int) (v2 : Int) (v3 : Int) (v4 : Int) (v5 : Int) (v6 : Int) (v7 : Int) : Option Out :=
  cond (decide (v7 < v2)) (
    let r18 : Int := stMonth v1 v7
    let x19 : Int := IntKind.i64.wrap (v6 + r18)
    let x20 : Int := IntKind.i64.wrap (v7 + 1)
    again v1 v2 v3 v4 v5 x19 x20)
  (
    k0 v1 v2 v3 v4 v5 v6 v7 v7 v2)
noncomputable def lpRRead_13 (k0 : Int → Int → Int → Int → Int → Int → Int → Int → Int → Option Out) : Nat → Int → Int → Int → Int → Int → Int → Int → Option Out
  | 0 => fun _ _ _ _ _ _ _ => none
  | n + 1 => lpRRead_13s (lpRRead_13 k0 n) k0
noncomputable def LRRead_13 : St → (Ex → St → Option Out) → Option Out := fun σ k => match σ with
  | ⟨[(q1, .cl (.int .i64 v1)), (q2, .cl (.int .i64 v2)), (q3, .cl (.int .i64 v3)), (q4, .cl (.int .i64 v4)), (q5, .cl (.int .i64 v5)), (q6, .cl (.int .i64 v6)), (q7, .cl (.int .i64 v7))], []⟩ => cond (Nat.beq q1 4 && Nat.beq q2 5 && Nat.beq q3 7 && Nat.beq q4 8 && Nat.beq q5 9 && Nat.beq q6 10 && Nat.beq q7 11) (shut (lpRRead_13 (fun y1 y2 y3 y4 y5 y6 y7 y8 y9 => k (.exit 0) ⟨[(4, .cl (.int .i64 y1)), (5, .cl (.int .i64 y2)), (7, .cl (.int .i64 y3)), (8, .cl (.int .i64 y4)), (9, .cl (.int .i64 y5)), (10, .cl (.int .i64 y6)), (11, .cl (.int .i64 y7)), (76, .cl (.int .i64 y8)), (77, .cl (.int .i64 y9)), (78, .cl (.bool false))], []⟩) FUEL) v1 v2 v3 v4 v5 v6 v7) none
  | _ => none
noncomputable def ERRead : Env := {
  orc := fun g => cond (Nat.beq g 12) (SRDays) (cond (Nat.beq g 16) (SRNumber) (cond (Nat.beq g 17) (SRYears) (fun _ _ => none)))
  pre := fun g => cond (Nat.beq g 12) (preRDays) (cond (Nat.beq g 16) (preRNumber) (cond (Nat.beq g 17) (preRYears) (fun _ _ => true)))
  byref := fun _ => []
  keep := fun _ => false
  live := fun r => cond (Nat.beq r 13) ([4, 5, 7, 8, 9, 10, 11]) ([])
  ren := fun _ => []
  glob := fun _ => none
  nt := 97
  lp := fun r => cond (Nat.beq r 13) (some LRRead_13) (none) }
noncomputable def blpRRead_13 : Code := (Cd.fst (Cd.fst (Cd.snd (Cd.fst (Cd.snd (Cd.snd (Cd.snd (Cd.snd (Cd.snd (Cd.snd (Cd.snd (Cd.snd (Cd.snd (Cd.snd (Try.f8.body.getD .skip)))))))))))))))
theorem lpRRead_13_step (k : Ex → St → Option Out) (n : Nat) (v1 : Int) (v2 : Int) (v3 : Int) (v4 : Int) (v5 : Int) (v6 : Int) (v7 : Int) : iterK (n + 1) (codeK Try.prog ERRead 40 blpRRead_13) (head ERRead 13) ⟨[(4, .cl (.int .i64 v1)), (5, .cl (.int .i64 v2)), (7, .cl (.int .i64 v3)), (8, .cl (.int .i64 v4)), (9, .cl (.int .i64 v5)), (10, .cl (.int .i64 v6)), (11, .cl (.int .i64 v7))], []⟩ k = lpRRead_13s (fun v1 v2 v3 v4 v5 v6 v7 => iterK n (codeK Try.prog ERRead 40 blpRRead_13) (head ERRead 13) ⟨[(4, .cl (.int .i64 v1)), (5, .cl (.int .i64 v2)), (7, .cl (.int .i64 v3)), (8, .cl (.int .i64 v4)), (9, .cl (.int .i64 v5)), (10, .cl (.int .i64 v6)), (11, .cl (.int .i64 v7))], []⟩ k) (fun y1 y2 y3 y4 y5 y6 y7 y8 y9 => k (.exit 0) ⟨[(4, .cl (.int .i64 y1)), (5, .cl (.int .i64 y2)), (7, .cl (.int .i64 y3)), (8, .cl (.int .i64 y4)), (9, .cl (.int .i64 y5)), (10, .cl (.int .i64 y6)), (11, .cl (.int .i64 y7)), (76, .cl (.int .i64 y8)), (77, .cl (.int .i64 y9)), (78, .cl (.bool false))], []⟩) v1 v2 v3 v4 v5 v6 v7 := by kernel_rfl
theorem lpRRead_13_eq (k : Ex → St → Option Out) : ∀ (n : Nat), ∀ (v1 : Int) (v2 : Int) (v3 : Int) (v4 : Int) (v5 : Int) (v6 : Int) (v7 : Int), iterK n (codeK Try.prog ERRead 40 blpRRead_13) (head ERRead 13) ⟨[(4, .cl (.int .i64 v1)), (5, .cl (.int .i64 v2)), (7, .cl (.int .i64 v3)), (8, .cl (.int .i64 v4)), (9, .cl (.int .i64 v5)), (10, .cl (.int .i64 v6)), (11, .cl (.int .i64 v7))], []⟩ k = lpRRead_13 (fun y1 y2 y3 y4 y5 y6 y7 y8 y9 => k (.exit 0) ⟨[(4, .cl (.int .i64 y1)), (5, .cl (.int .i64 y2)), (7, .cl (.int .i64 y3)), (8, .cl (.int .i64 y4)), (9, .cl (.int .i64 y5)), (10, .cl (.int .i64 y6)), (11, .cl (.int .i64 y7)), (76, .cl (.int .i64 y8)), (77, .cl (.int .i64 y9)), (78, .cl (.bool false))], []⟩) n v1 v2 v3 v4 v5 v6 v7
  | 0 => by intros; rfl
  | n + 1 => by
    intros
    rw [lpRRead_13_step]
    have ih := lpRRead_13_eq k n
    simp only [lpRRead_13, ih]
theorem LRRead_13_ok : ∀ (σ : St) (k : Ex → St → Option Out) (r : Out), LRRead_13 σ k = some r → ∃ n, iterK n (codeK Try.prog ERRead 40 blpRRead_13) (head ERRead 13) σ k = some r := by
  intro σ k r h
  unfold LRRead_13 at h
  split at h
  · obtain ⟨hc, h⟩ := cond_some h
    simp only [Bool.and_eq_true, beq_prop, decide_eq_true_eq, Bool.not_eq_true'] at hc
    obtain ⟨⟨⟨⟨⟨⟨rfl, rfl⟩, rfl⟩, rfl⟩, rfl⟩, rfl⟩, rfl⟩ := hc
    rw [shut_eq] at h
    exact ⟨FUEL, (lpRRead_13_eq k FUEL _ _ _ _ _ _ _ ).trans h⟩
  · cases h
theorem loopsRRead : ∀ c, Try.f8.body = some c → LoopsOk Try.prog ERRead 40 c := by
  intro c hc
  cases hc
  exact ⟨trivial, ⟨⟨trivial, ⟨⟨trivial, trivial⟩, trivial⟩⟩, ⟨trivial, ⟨trivial, ⟨trivial, ⟨trivial, ⟨trivial, ⟨trivial, ⟨⟨trivial, ⟨⟨trivial, trivial⟩, trivial⟩⟩, ⟨trivial, ⟨⟨trivial, ⟨⟨⟨trivial, ⟨trivial, trivial⟩⟩, ⟨trivial, trivial⟩⟩, lp_some rfl LRRead_13_ok⟩⟩, ⟨trivial, trivial⟩⟩⟩⟩⟩⟩⟩⟩⟩⟩⟩⟩
noncomputable def gRRead (s : ByteArray) : Option Out :=
  cond (!decide (((s.size : Nat) : Int) = 15)) (
    some (.ret [.cl (.int .i64 0), .cl (.int .i64 1)] []))
  (
    cond (decide ((14 : Int) < ((s.size : Nat) : Int))) (
    let x1 : Int := bget s 14
    cond (!decide (x1 = 90)) (
      some (.ret [.cl (.int .i64 0), .cl (.int .i64 1)] []))
    (
      cond (decide ((4 : Int) ≤ ((s.size : Nat) : Int))) (
      let s2 : ByteArray := s.extract 0 4
      cond (decide (s2.size ≤ 18)) (
      let r3 : Int := stNumber s2
      cond (decide ((6 : Int) ≤ ((s.size : Nat) : Int))) (
      let s4 : ByteArray := s.extract 4 6
      cond (decide (s4.size ≤ 18)) (
      let r5 : Int := stNumber s4
      cond (decide ((8 : Int) ≤ ((s.size : Nat) : Int))) (
      let s6 : ByteArray := s.extract 6 8
      cond (decide (s6.size ≤ 18)) (
      let r7 : Int := stNumber s6
      cond (decide ((10 : Int) ≤ ((s.size : Nat) : Int))) (
      let s8 : ByteArray := s.extract 8 10
      cond (decide (s8.size ≤ 18)) (
      let r9 : Int := stNumber s8
      cond (decide ((12 : Int) ≤ ((s.size : Nat) : Int))) (
      let s10 : ByteArray := s.extract 10 12
      cond (decide (s10.size ≤ 18)) (
      let r11 : Int := stNumber s10
      cond (decide ((14 : Int) ≤ ((s.size : Nat) : Int))) (
      let s12 : ByteArray := s.extract 12 14
      cond (decide (s12.size ≤ 18)) (
      let r13 : Int := stNumber s12
      cond (decide (r7 < 1)) (
        some (.ret [.cl (.int .i64 0), .cl (.int .i64 1)] []))
      (
        let r14 : Int := stMonth r3 r5
        cond (decide (r14 < r7)) (
          some (.ret [.cl (.int .i64 0), .cl (.int .i64 1)] []))
        (
          cond (decide (r9 < 0)) (
            some (.ret [.cl (.int .i64 0), .cl (.int .i64 1)] []))
          (
            cond (decide ((23 : Int) < r9)) (
              some (.ret [.cl (.int .i64 0), .cl (.int .i64 1)] []))
            (
              cond (decide (r11 < 0)) (
                some (.ret [.cl (.int .i64 0), .cl (.int .i64 1)] []))
              (
                cond (decide ((59 : Int) < r11)) (
                  some (.ret [.cl (.int .i64 0), .cl (.int .i64 1)] []))
                (
                  cond (decide (r13 < 0)) (
                    some (.ret [.cl (.int .i64 0), .cl (.int .i64 1)] []))
                  (
                    cond (decide ((59 : Int) < r13)) (
                      some (.ret [.cl (.int .i64 0), .cl (.int .i64 1)] []))
                    (
                      cond (stOk r3) (
                      let r15 : Int := stYears r3
                      let x16 : Int := IntKind.i64.wrap (r7 - 1)
                      let x17 : Int := IntKind.i64.wrap (r15 + x16)
                      shut (lpRRead_13
                      (fun (y18 : Int) (y19 : Int) (y20 : Int) (y21 : Int) (y22 : Int) (y23 : Int) (y24 : Int) (y25 : Int) (y26 : Int) =>
                        let x27 : Int := IntKind.i64.wrap (y23 * 86400)
                        let x28 : Int := IntKind.i64.wrap (((-62135596800) : Int) + x27)
                        let x29 : Int := IntKind.i64.wrap (y20 * 3600)
                        let x30 : Int := IntKind.i64.wrap (y21 * 60)
                        let x31 : Int := IntKind.i64.wrap (x29 + x30)
                        let x32 : Int := IntKind.i64.wrap (x31 + y22)
                        let x33 : Int := IntKind.i64.wrap (x28 + x32)
                        some (.ret [.cl (.int .i64 x33), .cl (.int .i64 0)] []))
                      FUEL) r3 r5 r9 r11 r13 x17 1) none))))))))) none) none) none) none) none) none) none) none) none) none) none) none)) none)
theorem gRRead_eq (s : ByteArray) : bodyK Try.prog ERRead 40 false Try.f8 [.cl (.str s)] [] = gRRead s := by kernel_rfl
end Go.Proofs.YtpdkenjphnlbdaaA

/-
  What the reading of apostille/apostillelaw03.awake comes to, printed by a program. Conditions: none.
-/
set_option linter.unusedVariables false
set_option linter.unusedSimpArgs false
set_option maxRecDepth 100000
namespace Go.Proofs.YtpdkenjphnlbdaaA
noncomputable def ESAwake : Env := {
  orc := fun g => cond (Nat.beq g 7) (SSRead) (cond (Nat.beq g 9) (SSText) (cond (Nat.beq g 11) (SSDays) (fun _ _ => none)))
  pre := fun g => cond (Nat.beq g 7) (preSRead) (cond (Nat.beq g 9) (preSText) (cond (Nat.beq g 11) (preSDays) (fun _ _ => true)))
  byref := fun _ => []
  keep := fun _ => false
  live := fun _ => []
  ren := fun _ => []
  glob := fun _ => none
  nt := 17
  lp := fun _ => none }
theorem loopsSAwake : ∀ c, Try.f6.body = some c → LoopsOk Try.prog ESAwake 40 c := by
  intro c hc
  cases hc
  exact ⟨trivial, ⟨trivial, ⟨trivial, trivial⟩⟩⟩
noncomputable def gSAwake  : Option Out :=
  let r2 : Int := (stRead (⟨#[50, 48, 50, 51, 48, 50, 50, 57, 48, 48, 48, 48, 48, 48, 90]⟩ : ByteArray)).2
  cond (stI64 0) (
  let r3 : ByteArray := stText 0
  cond ((r3.toList == (⟨#[49, 57, 55, 48, 48, 49, 48, 49, 48, 48, 48, 48, 48, 48, 90]⟩ : ByteArray).toList)) (
    cond (decide (r2 = 1)) (
      let r4 : Int := stMonth 2024 2
      some (.ret [.cl (.bool (decide (r4 = 29)))] []))
    (
      some (.ret [.cl (.bool false)] [])))
  (
    some (.ret [.cl (.bool false)] []))) none
theorem gSAwake_eq  : bodyK Try.prog ESAwake 40 false Try.f6 [] [] = gSAwake  := by kernel_rfl
end Go.Proofs.YtpdkenjphnlbdaaA

/-
  What the reading of apostille/apostillelaw03.StampTells comes to, printed by a program. Conditions: none.
-/
set_option linter.unusedVariables false
set_option linter.unusedSimpArgs false
set_option maxRecDepth 100000
namespace Go.Proofs.YtpdkenjphnlbdaaA
noncomputable def ESTells : Env := {
  orc := fun g => cond (Nat.beq g 6) (SSAwake) (cond (Nat.beq g 7) (SSRead) (cond (Nat.beq g 8) (SRRead) (cond (Nat.beq g 9) (SSText) (cond (Nat.beq g 10) (SRText) (cond (Nat.beq g 11) (SSDays) (cond (Nat.beq g 12) (SRDays) (fun _ _ => none)))))))
  pre := fun g => cond (Nat.beq g 6) (preSAwake) (cond (Nat.beq g 7) (preSRead) (cond (Nat.beq g 8) (preRRead) (cond (Nat.beq g 9) (preSText) (cond (Nat.beq g 10) (preRText) (cond (Nat.beq g 11) (preSDays) (cond (Nat.beq g 12) (preRDays) (fun _ _ => true)))))))
  byref := fun _ => []
  keep := fun _ => false
  live := fun _ => []
  ren := fun _ => []
  glob := fun _ => none
  nt := 54
  lp := fun _ => none }
theorem loopsSTells : ∀ c, Try.f3.body = some c → LoopsOk Try.prog ESTells 40 c := by
  intro c hc
  cases hc
  exact ⟨trivial, ⟨⟨trivial, ⟨⟨trivial, trivial⟩, trivial⟩⟩, ⟨trivial, ⟨trivial, ⟨trivial, trivial⟩⟩⟩⟩⟩
noncomputable def gSTells (t : Int) (s : ByteArray) (y : Int) (m : Int) : Option Out :=
  cond (decide ((300 : Int) < ((s.size : Nat) : Int))) (
    some (.ret [.cl (.bool true)] []))
  (
    let r1 : Int := (stRead s).1
    let r2 : Int := (stRead s).2
    let r3 : Int := (stRead s).1
    let r4 : Int := (stRead s).2
    cond (stI64 t) (
    let r5 : ByteArray := stText t
    cond (stI64 t) (
    let r6 : ByteArray := stText t
    cond ((r5.toList == r6.toList)) (
      cond (decide (r1 = r3)) (
        cond (decide (r2 = r4)) (
          let r7 : Int := stMonth y m
          let r8 : Int := stMonth y m
          cond (decide (r7 = r8)) (
            some (.ret [.cl (.bool true)] []))
          (
            some (.ret [.cl (.bool false)] [])))
        (
          some (.ret [.cl (.bool false)] [])))
      (
        some (.ret [.cl (.bool false)] [])))
    (
      some (.ret [.cl (.bool false)] []))) none) none)
theorem gSTells_eq (t : Int) (s : ByteArray) (y : Int) (m : Int) : bodyK Try.prog ESTells 40 false Try.f3 [.cl (.int .i64 t), .cl (.str s), .cl (.int .i64 y), .cl (.int .i64 m)] [] = gSTells t s y m := by kernel_rfl
end Go.Proofs.YtpdkenjphnlbdaaA

/-
  What the reading of apostille/apostillelaw03.StampBack comes to, printed by a program. Conditions: none.
-/
set_option linter.unusedVariables false
set_option linter.unusedSimpArgs false
set_option maxRecDepth 100000
namespace Go.Proofs.YtpdkenjphnlbdaaA
noncomputable def ESBack : Env := {
  orc := fun g => cond (Nat.beq g 6) (SSAwake) (cond (Nat.beq g 7) (SSRead) (cond (Nat.beq g 9) (SSText) (fun _ _ => none)))
  pre := fun g => cond (Nat.beq g 6) (preSAwake) (cond (Nat.beq g 7) (preSRead) (cond (Nat.beq g 9) (preSText) (fun _ _ => true)))
  byref := fun _ => []
  keep := fun _ => false
  live := fun _ => []
  ren := fun _ => []
  glob := fun _ => none
  nt := 67
  lp := fun _ => none }
theorem loopsSBack : ∀ c, Try.f4.body = some c → LoopsOk Try.prog ESBack 40 c := by
  intro c hc
  cases hc
  exact ⟨trivial, ⟨⟨trivial, ⟨⟨trivial, trivial⟩, trivial⟩⟩, ⟨trivial, ⟨⟨trivial, ⟨⟨trivial, trivial⟩, trivial⟩⟩, ⟨trivial, ⟨trivial, trivial⟩⟩⟩⟩⟩⟩
noncomputable def gSBack (t : Int) (s : ByteArray) : Option Out :=
  cond (decide ((300 : Int) < ((s.size : Nat) : Int))) (
    some (.ret [.cl (.bool true)] []))
  (
    cond (stI64 t) (
    let r1 : ByteArray := stText t
    let r2 : Int := (stRead r1).1
    let r3 : Int := (stRead r1).2
    cond (decide (((-62135596800) : Int) ≤ t)) (
      cond (decide (t ≤ 253402300799)) (
        cond (!decide (r3 = 0)) (
          some (.ret [.cl (.bool false)] []))
        (
          cond (!decide (r2 = t)) (
            some (.ret [.cl (.bool false)] []))
          (
            cond (decide (t < (-62135596800))) (
              cond (!decide (r3 = 1)) (
                some (.ret [.cl (.bool false)] []))
              (
                cond (stI64 t) (
                let r4 : ByteArray := stText t
                cond (!(r4.toList == (⟨#[]⟩ : ByteArray).toList)) (
                  some (.ret [.cl (.bool false)] []))
                (
                  let r5 : Int := (stRead s).1
                  let r6 : Int := (stRead s).2
                  cond (!decide (r6 = 0)) (
                    some (.ret [.cl (.bool true)] []))
                  (
                    cond (stI64 r5) (
                    let r7 : ByteArray := stText r5
                    cond ((r7.toList == s.toList)) (
                      some (.ret [.cl (.bool true)] []))
                    (
                      some (.ret [.cl (.bool false)] []))) none))) none))
            (
              cond (decide ((253402300799 : Int) < t)) (
                cond (!decide (r3 = 1)) (
                  some (.ret [.cl (.bool false)] []))
                (
                  cond (stI64 t) (
                  let r8 : ByteArray := stText t
                  cond (!(r8.toList == (⟨#[]⟩ : ByteArray).toList)) (
                    some (.ret [.cl (.bool false)] []))
                  (
                    let r9 : Int := (stRead s).1
                    let r10 : Int := (stRead s).2
                    cond (!decide (r10 = 0)) (
                      some (.ret [.cl (.bool true)] []))
                    (
                      cond (stI64 r9) (
                      let r11 : ByteArray := stText r9
                      cond ((r11.toList == s.toList)) (
                        some (.ret [.cl (.bool true)] []))
                      (
                        some (.ret [.cl (.bool false)] []))) none))) none))
              (
                let r12 : Int := (stRead s).1
                let r13 : Int := (stRead s).2
                cond (!decide (r13 = 0)) (
                  some (.ret [.cl (.bool true)] []))
                (
                  cond (stI64 r12) (
                  let r14 : ByteArray := stText r12
                  cond ((r14.toList == s.toList)) (
                    some (.ret [.cl (.bool true)] []))
                  (
                    some (.ret [.cl (.bool false)] []))) none))))))
      (
        cond (decide (t < (-62135596800))) (
          cond (!decide (r3 = 1)) (
            some (.ret [.cl (.bool false)] []))
          (
            cond (stI64 t) (
            let r15 : ByteArray := stText t
            cond (!(r15.toList == (⟨#[]⟩ : ByteArray).toList)) (
              some (.ret [.cl (.bool false)] []))
            (
              let r16 : Int := (stRead s).1
              let r17 : Int := (stRead s).2
              cond (!decide (r17 = 0)) (
                some (.ret [.cl (.bool true)] []))
              (
                cond (stI64 r16) (
                let r18 : ByteArray := stText r16
                cond ((r18.toList == s.toList)) (
                  some (.ret [.cl (.bool true)] []))
                (
                  some (.ret [.cl (.bool false)] []))) none))) none))
        (
          cond (decide ((253402300799 : Int) < t)) (
            cond (!decide (r3 = 1)) (
              some (.ret [.cl (.bool false)] []))
            (
              cond (stI64 t) (
              let r19 : ByteArray := stText t
              cond (!(r19.toList == (⟨#[]⟩ : ByteArray).toList)) (
                some (.ret [.cl (.bool false)] []))
              (
                let r20 : Int := (stRead s).1
                let r21 : Int := (stRead s).2
                cond (!decide (r21 = 0)) (
                  some (.ret [.cl (.bool true)] []))
                (
                  cond (stI64 r20) (
                  let r22 : ByteArray := stText r20
                  cond ((r22.toList == s.toList)) (
                    some (.ret [.cl (.bool true)] []))
                  (
                    some (.ret [.cl (.bool false)] []))) none))) none))
          (
            let r23 : Int := (stRead s).1
            let r24 : Int := (stRead s).2
            cond (!decide (r24 = 0)) (
              some (.ret [.cl (.bool true)] []))
            (
              cond (stI64 r23) (
              let r25 : ByteArray := stText r23
              cond ((r25.toList == s.toList)) (
                some (.ret [.cl (.bool true)] []))
              (
                some (.ret [.cl (.bool false)] []))) none)))))
    (
      cond (decide (t < (-62135596800))) (
        cond (!decide (r3 = 1)) (
          some (.ret [.cl (.bool false)] []))
        (
          cond (stI64 t) (
          let r26 : ByteArray := stText t
          cond (!(r26.toList == (⟨#[]⟩ : ByteArray).toList)) (
            some (.ret [.cl (.bool false)] []))
          (
            let r27 : Int := (stRead s).1
            let r28 : Int := (stRead s).2
            cond (!decide (r28 = 0)) (
              some (.ret [.cl (.bool true)] []))
            (
              cond (stI64 r27) (
              let r29 : ByteArray := stText r27
              cond ((r29.toList == s.toList)) (
                some (.ret [.cl (.bool true)] []))
              (
                some (.ret [.cl (.bool false)] []))) none))) none))
      (
        cond (decide ((253402300799 : Int) < t)) (
          cond (!decide (r3 = 1)) (
            some (.ret [.cl (.bool false)] []))
          (
            cond (stI64 t) (
            let r30 : ByteArray := stText t
            cond (!(r30.toList == (⟨#[]⟩ : ByteArray).toList)) (
              some (.ret [.cl (.bool false)] []))
            (
              let r31 : Int := (stRead s).1
              let r32 : Int := (stRead s).2
              cond (!decide (r32 = 0)) (
                some (.ret [.cl (.bool true)] []))
              (
                cond (stI64 r31) (
                let r33 : ByteArray := stText r31
                cond ((r33.toList == s.toList)) (
                  some (.ret [.cl (.bool true)] []))
                (
                  some (.ret [.cl (.bool false)] []))) none))) none))
        (
          let r34 : Int := (stRead s).1
          let r35 : Int := (stRead s).2
          cond (!decide (r35 = 0)) (
            some (.ret [.cl (.bool true)] []))
          (
            cond (stI64 r34) (
            let r36 : ByteArray := stText r34
            cond ((r36.toList == s.toList)) (
              some (.ret [.cl (.bool true)] []))
            (
              some (.ret [.cl (.bool false)] []))) none))))) none)
theorem gSBack_eq (t : Int) (s : ByteArray) : bodyK Try.prog ESBack 40 false Try.f4 [.cl (.int .i64 t), .cl (.str s)] [] = gSBack t s := by kernel_rfl
end Go.Proofs.YtpdkenjphnlbdaaA

/-
  What the reading of apostille/apostillelaw03.StampOrder comes to, printed by a program. Conditions: none.
-/
set_option linter.unusedVariables false
set_option linter.unusedSimpArgs false
set_option maxRecDepth 100000
namespace Go.Proofs.YtpdkenjphnlbdaaA
noncomputable def ESOrder : Env := {
  orc := fun g => cond (Nat.beq g 6) (SSAwake) (cond (Nat.beq g 9) (SSText) (cond (Nat.beq g 11) (SSDays) (fun _ _ => none)))
  pre := fun g => cond (Nat.beq g 6) (preSAwake) (cond (Nat.beq g 9) (preSText) (cond (Nat.beq g 11) (preSDays) (fun _ _ => true)))
  byref := fun _ => []
  keep := fun _ => false
  live := fun r => cond (Nat.beq r 9) ([10, 11, 75]) ([])
  ren := fun _ => []
  glob := fun _ => none
  nt := 101
  lp := fun _ => none }
theorem loopsSOrder : ∀ c, Try.f5.body = some c → LoopsOk Try.prog ESOrder 40 c := by
  intro c hc
  cases hc
  exact ⟨trivial, ⟨⟨trivial, ⟨⟨trivial, trivial⟩, trivial⟩⟩, ⟨trivial, ⟨⟨trivial, ⟨⟨trivial, trivial⟩, trivial⟩⟩, ⟨trivial, ⟨trivial, ⟨⟨trivial, ⟨⟨trivial, ⟨⟨trivial, trivial⟩, ⟨⟨trivial, trivial⟩, trivial⟩⟩⟩, lp_none rfl⟩⟩, ⟨trivial, trivial⟩⟩⟩⟩⟩⟩⟩⟩
noncomputable def gSOrder (t : Int) (u : Int) (year : Int) : Option Out :=
  cond (decide (t < (-62135596800))) (
    some (.ret [.cl (.bool true)] []))
  (
    cond (decide ((253402214399 : Int) < t)) (
      some (.ret [.cl (.bool true)] []))
    (
      cond (decide (u < (-62135596800))) (
        some (.ret [.cl (.bool true)] []))
      (
        cond (decide ((253402300799 : Int) < u)) (
          some (.ret [.cl (.bool true)] []))
        (
          cond (stI64 t) (
          let r1 : ByteArray := stText t
          cond (stI64 u) (
          let r2 : ByteArray := stText u
          let x3 : Int := IntKind.i64.wrap (t + 86400)
          cond (stI64 x3) (
          let r4 : ByteArray := stText x3
          cond (!decide (((r1.size : Nat) : Int) = 15)) (
            some (.ret [.cl (.bool false)] []))
          (
            cond (!decide (((r2.size : Nat) : Int) = 15)) (
              some (.ret [.cl (.bool false)] []))
            (
              cond (!decide (((r4.size : Nat) : Int) = 15)) (
                some (.ret [.cl (.bool false)] []))
              (
                cond (!((decide (t < u)) == (Op.bytesLess r1.toList r2.toList))) (
                  some (.ret [.cl (.bool false)] []))
                (
                  cond (decide ((8 : Int) ≤ ((r1.size : Nat) : Int))) (
                  let s5 : ByteArray := r1.extract 8 r1.size
                  cond (decide ((8 : Int) ≤ ((r4.size : Nat) : Int))) (
                  let s6 : ByteArray := r4.extract 8 r4.size
                  cond (!(s5.toList == s6.toList)) (
                    some (.ret [.cl (.bool false)] []))
                  (
                    cond (decide ((8 : Int) ≤ ((r1.size : Nat) : Int))) (
                    let s7 : ByteArray := r1.extract 6 8
                    cond (decide ((8 : Int) ≤ ((r4.size : Nat) : Int))) (
                    let s8 : ByteArray := r4.extract 6 8
                    cond ((s7.toList == s8.toList)) (
                      some (.ret [.cl (.bool false)] []))
                    (
                      let x9 : Int := Int.tmod year 9999
                      let x10 : Int := IntKind.i64.wrap x9
                      let x11 : Int := IntKind.i64.wrap ((1 : Int) + x10)
                      let r12 : Int := stMonth x11 0
                      let x13 : Int := IntKind.i64.wrap ((0 : Int) + r12)
                      let r14 : Int := stMonth x11 1
                      let x15 : Int := IntKind.i64.wrap (x13 + r14)
                      let r16 : Int := stMonth x11 2
                      let x17 : Int := IntKind.i64.wrap (x15 + r16)
                      let r18 : Int := stMonth x11 3
                      let x19 : Int := IntKind.i64.wrap (x17 + r18)
                      let r20 : Int := stMonth x11 4
                      let x21 : Int := IntKind.i64.wrap (x19 + r20)
                      let r22 : Int := stMonth x11 5
                      let x23 : Int := IntKind.i64.wrap (x21 + r22)
                      let r24 : Int := stMonth x11 6
                      let x25 : Int := IntKind.i64.wrap (x23 + r24)
                      let r26 : Int := stMonth x11 7
                      let x27 : Int := IntKind.i64.wrap (x25 + r26)
                      let r28 : Int := stMonth x11 8
                      let x29 : Int := IntKind.i64.wrap (x27 + r28)
                      let r30 : Int := stMonth x11 9
                      let x31 : Int := IntKind.i64.wrap (x29 + r30)
                      let r32 : Int := stMonth x11 10
                      let x33 : Int := IntKind.i64.wrap (x31 + r32)
                      let r34 : Int := stMonth x11 11
                      let x35 : Int := IntKind.i64.wrap (x33 + r34)
                      let r36 : Int := stMonth x11 12
                      let x37 : Int := IntKind.i64.wrap (x35 + r36)
                      let r38 : Int := stMonth x11 13
                      let x39 : Int := IntKind.i64.wrap (x37 + r38)
                      cond (decide (x39 = 365)) (
                        let r40 : Int := stMonth x11 2
                        cond (((decide (x39 = 366)) == (decide (r40 = 29)))) (
                          some (.ret [.cl (.bool true)] []))
                        (
                          some (.ret [.cl (.bool false)] [])))
                      (
                        cond (decide (x39 = 366)) (
                          let r41 : Int := stMonth x11 2
                          cond (((decide (x39 = 366)) == (decide (r41 = 29)))) (
                            some (.ret [.cl (.bool true)] []))
                          (
                            some (.ret [.cl (.bool false)] [])))
                        (
                          some (.ret [.cl (.bool false)] []))))) none) none)) none) none))))) none) none) none))))
theorem gSOrder_eq (t : Int) (u : Int) (year : Int) : bodyK Try.prog ESOrder 40 false Try.f5 [.cl (.int .i64 t), .cl (.int .i64 u), .cl (.int .u16 year)] [] = gSOrder t u year := by kernel_rfl
end Go.Proofs.YtpdkenjphnlbdaaA
