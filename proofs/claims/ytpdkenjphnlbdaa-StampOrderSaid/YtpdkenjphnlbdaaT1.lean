/-
  Times as plain functions: what the stamp layer computes. Conditions: none.
-/
import Derived.Test.YtpdkenjphnlbdaaK3
import Derived.Test.YtpdkenjphnlbdaaProg
set_option linter.unusedVariables false
namespace Go.Proofs.YtpdkenjphnlbdaaA

def stOk (y : Int) : Bool := decide (1 ≤ y ∧ y ≤ 20000)
def stLeap (y : Int) : Bool := decide (y % 4 = 0 ∧ (y % 100 ≠ 0 ∨ y % 400 = 0))
def stDays (y m : Int) : Int := if m = 2 then (if stLeap y = true then 29 else 28) else if m = 4 ∨ m = 6 ∨ m = 9 ∨ m = 11 then 30 else 31
def stFit (y m d h i s : Int) : Bool := decide ((1 ≤ y ∧ y ≤ 9999 ∧ 1 ≤ m ∧ m ≤ 12) ∧ (1 ≤ d ∧ d ≤ stDays y m) ∧ 0 ≤ h ∧ h < 24 ∧ 0 ≤ i ∧ i < 60 ∧ 0 ≤ s ∧ s < 60)
def stMonth (y m : Int) : Int := if 1 ≤ y ∧ y ≤ 9999 ∧ 1 ≤ m ∧ m ≤ 12 then stDays y m else 0
def stYears (y : Int) : Int := (y - 1) * 365 + (y - 1) / 4 - (y - 1) / 100 + (y - 1) / 400
/-- the days ahead of a month in its year -/
def stAhead (y m : Int) : Int := if m ≤ 2 then 31 * (m - 1) else (153 * (m - 3) + 2) / 5 + 59 + (if stLeap y = true then 1 else 0)
def stSecs (y m d h i s : Int) : Int := -62135596800 + (stYears y + stAhead y m + (d - 1)) * 86400 + (h * 3600 + i * 60 + s)
def stI64 (t : Int) : Bool := decide (-9223372036854775808 ≤ t ∧ t ≤ 9223372036854775807)
def stIn (t : Int) : Bool := decide (-62135596800 ≤ t ∧ t ≤ 253402300799)
structure StD where
  d0 : Int
  d1 : Int
  d2 : Int
  d3 : Int
  d4 : Int
  d5 : Int
def stDated (t : Int) : StD :=
  let n := (t + 62135596800) / 86400
  let s := (t + 62135596800) % 86400
  let z := n + 306
  let doe := z % 146097
  let yoe := (doe - doe / 1460 + doe / 36524 - doe / 146096) / 365
  let doy := doe - (365 * yoe + yoe / 4 - yoe / 100)
  let mp := (5 * doy + 2) / 153
  let y := yoe + z / 146097 * 400
  let d := doy - (153 * mp + 2) / 5 + 1
  if 9 < mp then ⟨y + 1, mp - 9, d, s / 3600, s / 60 % 60, s % 60⟩ else ⟨y, mp + 3, d, s / 3600, s / 60 % 60, s % 60⟩
def stTwo (n : Int) : List Int := [IntKind.u8.wrap (IntKind.i64.wrap (48 + Int.tmod (IntKind.i64.wrap (Int.tdiv n 10)) 10)), IntKind.u8.wrap (IntKind.i64.wrap (48 + Int.tmod n 10))]
def stTextL (d : StD) : List Int := stTwo (d.d0 / 100) ++ stTwo d.d0 ++ stTwo d.d1 ++ stTwo d.d2 ++ stTwo d.d3 ++ stTwo d.d4 ++ stTwo d.d5 ++ [90]
def stText (t : Int) : ByteArray := if stIn t = true then strOf (stTextL (stDated t)) else strOf []
def stDig (a b : Int) : Int := if a < 48 ∨ 57 < a ∨ b < 48 ∨ 57 < b then -100000 else 10 * (a - 48) + (b - 48)
def stDigits (s : ByteArray) : Int := stDig (bget s 0) (bget s 1)
def stNum : List Int → Int → Int
  | [], n => n
  | c :: r, n => if c < 48 ∨ 57 < c then -1 else stNum r (n * 10 + (c - 48))
def stNumber (s : ByteArray) : Int := stNum (bytesOf s) 0
def stRead (s : ByteArray) : Int × Int :=
  if s.size = 15 ∧ bget s 14 = 90 then
    let y := stDig (bget s 2) (bget s 3) + 100 * stDig (bget s 0) (bget s 1)
    let m := stDig (bget s 4) (bget s 5)
    let d := stDig (bget s 6) (bget s 7)
    let h := stDig (bget s 8) (bget s 9)
    let i := stDig (bget s 10) (bget s 11)
    let c := stDig (bget s 12) (bget s 13)
    if stFit y m d h i c = true then (stSecs y m d h i c, 0) else (0, 1)
  else (0, 1)

end Go.Proofs.YtpdkenjphnlbdaaA

/-
  The stamp layer: the contracts of its functions. Conditions: none.
-/
set_option linter.unusedVariables false
set_option linter.unusedSimpArgs false
set_option maxRecDepth 100000
namespace Go.Proofs.YtpdkenjphnlbdaaA
noncomputable def SDigits : FSpec := fun xs obs => match xs, obs with
  | [.cl (.str s)], [] => some (.ret [.cl (.int .i64 (stDigits s))] [])
  | _, _ => none
noncomputable def preDigits : List V → List Obj → Bool := fun xs obs => match xs, obs with
  | [.cl (.str s)], [] => decide (2 ≤ s.size)
  | _, _ => false
noncomputable def SDLeap : FSpec := fun xs obs => match xs, obs with
  | [.cl (.aggi 6 .i64 [d0, d1, d2, d3, d4, d5])], [] => some (.ret [.cl (.bool (stLeap d0))] [])
  | _, _ => none
noncomputable def preDLeap : List V → List Obj → Bool := fun xs obs => match xs, obs with
  | [.cl (.aggi 6 .i64 [d0, d1, d2, d3, d4, d5])], [] => stOk d0
  | _, _ => false
noncomputable def SDDays : FSpec := fun xs obs => match xs, obs with
  | [.cl (.aggi 6 .i64 [d0, d1, d2, d3, d4, d5])], [] => some (.ret [.cl (.int .i64 (stDays d0 d1))] [])
  | _, _ => none
noncomputable def preDDays : List V → List Obj → Bool := fun xs obs => match xs, obs with
  | [.cl (.aggi 6 .i64 [d0, d1, d2, d3, d4, d5])], [] => stOk d0
  | _, _ => false
noncomputable def SDFit : FSpec := fun xs obs => match xs, obs with
  | [.cl (.aggi 6 .i64 [d0, d1, d2, d3, d4, d5])], [] => some (.ret [.cl (.bool (stFit d0 d1 d2 d3 d4 d5))] [])
  | _, _ => none
noncomputable def preDFit : List V → List Obj → Bool := fun xs obs => match xs, obs with
  | [.cl (.aggi 6 .i64 [d0, d1, d2, d3, d4, d5])], [] => true
  | _, _ => false
noncomputable def SDSecs : FSpec := fun xs obs => match xs, obs with
  | [.cl (.aggi 6 .i64 [d0, d1, d2, d3, d4, d5])], [] => some (.ret [.cl (.int .i64 (stSecs d0 d1 d2 d3 d4 d5))] [])
  | _, _ => none
noncomputable def preDSecs : List V → List Obj → Bool := fun xs obs => match xs, obs with
  | [.cl (.aggi 6 .i64 [d0, d1, d2, d3, d4, d5])], [] => stFit d0 d1 d2 d3 d4 d5
  | _, _ => false
noncomputable def SSDays : FSpec := fun xs obs => match xs, obs with
  | [.cl (.int .i64 y), .cl (.int .i64 m)], [] => some (.ret [.cl (.int .i64 (stMonth y m))] [])
  | _, _ => none
noncomputable def preSDays : List V → List Obj → Bool := fun xs obs => match xs, obs with
  | [.cl (.int .i64 y), .cl (.int .i64 m)], [] => true
  | _, _ => false
noncomputable def SDated : FSpec := fun xs obs => match xs, obs with
  | [.cl (.int .i64 t)], [] => some (.ret [.cl (.aggi 6 .i64 [(stDated t).d0, (stDated t).d1, (stDated t).d2, (stDated t).d3, (stDated t).d4, (stDated t).d5])] [])
  | _, _ => none
noncomputable def preDated : List V → List Obj → Bool := fun xs obs => match xs, obs with
  | [.cl (.int .i64 t)], [] => stIn t
  | _, _ => false
noncomputable def SPut : FSpec := fun xs obs => match xs, obs with
  | [.nils, .cl (.int .i64 n)], [] => some (.ret [.ref 0 0 ((stTwo n).length) true 1] [some ⟨.ints .u8 (stTwo n), false⟩])
  | [.ref 0 0 len true 1, .cl (.int .i64 n)], [⟨.ints .u8 l, false⟩] => some (.ret [.ref 1 0 ((l ++ stTwo n).length) true 1] [none, some ⟨.ints .u8 (l ++ stTwo n), false⟩])
  | _, _ => none
noncomputable def prePut : List V → List Obj → Bool := fun xs obs => match xs, obs with
  | [.nils, .cl (.int .i64 n)], [] => true
  | [.ref 0 0 len true 1, .cl (.int .i64 n)], [⟨.ints .u8 l, false⟩] => decide (l.length < 1000)
  | _, _ => false
noncomputable def SSText : FSpec := fun xs obs => match xs, obs with
  | [.cl (.int .i64 t)], [] => some (.ret [.cl (.str (stText t))] [])
  | _, _ => none
noncomputable def preSText : List V → List Obj → Bool := fun xs obs => match xs, obs with
  | [.cl (.int .i64 t)], [] => stI64 t
  | _, _ => false
noncomputable def SSRead : FSpec := fun xs obs => match xs, obs with
  | [.cl (.str s)], [] => some (.ret [.cl (.int .i64 ((stRead s).1)), .cl (.int .i64 ((stRead s).2))] [])
  | _, _ => none
noncomputable def preSRead : List V → List Obj → Bool := fun xs obs => match xs, obs with
  | [.cl (.str s)], [] => true
  | _, _ => false
noncomputable def SRLeap : FSpec := fun xs obs => match xs, obs with
  | [.cl (.int .i64 y)], [] => some (.ret [.cl (.bool (stLeap y))] [])
  | _, _ => none
noncomputable def preRLeap : List V → List Obj → Bool := fun xs obs => match xs, obs with
  | [.cl (.int .i64 y)], [] => stOk y
  | _, _ => false
noncomputable def SRDays : FSpec := fun xs obs => match xs, obs with
  | [.cl (.int .i64 y), .cl (.int .i64 m)], [] => some (.ret [.cl (.int .i64 (stMonth y m))] [])
  | _, _ => none
noncomputable def preRDays : List V → List Obj → Bool := fun xs obs => match xs, obs with
  | [.cl (.int .i64 y), .cl (.int .i64 m)], [] => true
  | _, _ => false
noncomputable def SRYears : FSpec := fun xs obs => match xs, obs with
  | [.cl (.int .i64 y)], [] => some (.ret [.cl (.int .i64 (stYears y))] [])
  | _, _ => none
noncomputable def preRYears : List V → List Obj → Bool := fun xs obs => match xs, obs with
  | [.cl (.int .i64 y)], [] => stOk y
  | _, _ => false
noncomputable def SRTwo : FSpec := fun xs obs => match xs, obs with
  | [.cl (.int .i64 n)], [] => some (.ret [.cl (.str (strOf (stTwo n)))] [])
  | _, _ => none
noncomputable def preRTwo : List V → List Obj → Bool := fun xs obs => match xs, obs with
  | [.cl (.int .i64 n)], [] => true
  | _, _ => false
noncomputable def SRNumber : FSpec := fun xs obs => match xs, obs with
  | [.cl (.str s)], [] => some (.ret [.cl (.int .i64 (stNumber s))] [])
  | _, _ => none
noncomputable def preRNumber : List V → List Obj → Bool := fun xs obs => match xs, obs with
  | [.cl (.str s)], [] => decide (s.size ≤ 18)
  | _, _ => false
noncomputable def SRText : FSpec := fun xs obs => match xs, obs with
  | [.cl (.int .i64 t)], [] => some (.ret [.cl (.str (stText t))] [])
  | _, _ => none
noncomputable def preRText : List V → List Obj → Bool := fun xs obs => match xs, obs with
  | [.cl (.int .i64 t)], [] => stI64 t
  | _, _ => false
noncomputable def SRRead : FSpec := fun xs obs => match xs, obs with
  | [.cl (.str s)], [] => some (.ret [.cl (.int .i64 ((stRead s).1)), .cl (.int .i64 ((stRead s).2))] [])
  | _, _ => none
noncomputable def preRRead : List V → List Obj → Bool := fun xs obs => match xs, obs with
  | [.cl (.str s)], [] => true
  | _, _ => false
noncomputable def SSAwake : FSpec := fun xs obs => match xs, obs with
  | [], [] => some (.ret [.cl (.bool true)] [])
  | _, _ => none
noncomputable def preSAwake : List V → List Obj → Bool := fun xs obs => match xs, obs with
  | [], [] => true
  | _, _ => false
noncomputable def SSTells : FSpec := fun xs obs => match xs, obs with
  | [.cl (.int .i64 t), .cl (.str s), .cl (.int .i64 y), .cl (.int .i64 m)], [] => some (.ret [.cl (.bool true)] [])
  | _, _ => none
noncomputable def preSTells : List V → List Obj → Bool := fun xs obs => match xs, obs with
  | [.cl (.int .i64 t), .cl (.str s), .cl (.int .i64 y), .cl (.int .i64 m)], [] => stI64 t
  | _, _ => false
noncomputable def SSBack : FSpec := fun xs obs => match xs, obs with
  | [.cl (.int .i64 t), .cl (.str s)], [] => some (.ret [.cl (.bool true)] [])
  | _, _ => none
noncomputable def preSBack : List V → List Obj → Bool := fun xs obs => match xs, obs with
  | [.cl (.int .i64 t), .cl (.str s)], [] => stI64 t
  | _, _ => false
noncomputable def SSOrder : FSpec := fun xs obs => match xs, obs with
  | [.cl (.int .i64 t), .cl (.int .i64 u), .cl (.int .u16 year)], [] => some (.ret [.cl (.bool true)] [])
  | _, _ => none
noncomputable def preSOrder : List V → List Obj → Bool := fun xs obs => match xs, obs with
  | [.cl (.int .i64 t), .cl (.int .i64 u), .cl (.int .u16 year)], [] => (stI64 t && stI64 u && decide (0 ≤ year ∧ year ≤ 65535))
  | _, _ => false
end Go.Proofs.YtpdkenjphnlbdaaA
