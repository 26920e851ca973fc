/-
  Times as plain functions: what the stamp layer computes. Conditions: none.
-/
import Derived.Test.YtbgkadaidhgggaaDoorK3
import Derived.Test.YtbgkadaidhgggaaDoorProg
set_option linter.unusedVariables false
namespace Go.Proofs.YtbgkadaidhgggaaDoorA

def stOk (y : Int) : Bool := decide (1 ≤ y ∧ y ≤ 20000)
def stLeap (y : Int) : Bool := decide (y % 4 = 0 ∧ (y % 100 ≠ 0 ∨ y % 400 = 0))
def stDays (y m : Int) : Int := if m = 2 then (if stLeap y = true then 29 else 28) else if m = 4 ∨ m = 6 ∨ m = 9 ∨ m = 11 then 30 else 31
def stFit (y m d h i s : Int) : Bool := decide ((1 ≤ y ∧ y ≤ 9999 ∧ 1 ≤ m ∧ m ≤ 12) ∧ (1 ≤ d ∧ d ≤ stDays y m) ∧ 0 ≤ h ∧ h < 24 ∧ 0 ≤ i ∧ i < 60 ∧ 0 ≤ s ∧ s < 60)
def stMonth (y m : Int) : Int := if 1 ≤ y ∧ y ≤ 9999 ∧ 1 ≤ m ∧ m ≤ 12 then stDays y m else 0
def stYears (y : Int) : Int := (y - 1) * 365 + (y - 1) / 4 - (y - 1) / 100 + (y - 1) / 400
/-- the days ahead of a month in its year -/
def stAhead (y m : Int) : Int := if m ≤ 2 then 31 * (m - 1) else (153 * (m - 3) + 2) / 5 + 59 + (if stLeap y = true then 1 else 0)
def stSecs (y m d h i s : Int) : Int := -62135596800 + (stYears y + stAhead y m + (d - 1)) * 86400 + (h * 3600 + i * 60 + s)
def stI64 (t : Int) : Bool := decide (-9223372036854775808 ≤ t ∧ t ≤ 9223372036854775807)
def stIn (t : Int) : Bool := decide (-62135596800 ≤ t ∧ t ≤ 253402300799)
structure StD where
  d0 : Int
  d1 : Int
  d2 : Int
  d3 : Int
  d4 : Int
  d5 : Int
def stDated (t : Int) : StD :=
  let n := (t + 62135596800) / 86400
  let s := (t + 62135596800) % 86400
  let z := n + 306
  let doe := z % 146097
  let yoe := (doe - doe / 1460 + doe / 36524 - doe / 146096) / 365
  let doy := doe - (365 * yoe + yoe / 4 - yoe / 100)
  let mp := (5 * doy + 2) / 153
  let y := yoe + z / 146097 * 400
  let d := doy - (153 * mp + 2) / 5 + 1
  if 9 < mp then ⟨y + 1, mp - 9, d, s / 3600, s / 60 % 60, s % 60⟩ else ⟨y, mp + 3, d, s / 3600, s / 60 % 60, s % 60⟩
def stTwo (n : Int) : List Int := [IntKind.u8.wrap (IntKind.i64.wrap (48 + Int.tmod (IntKind.i64.wrap (Int.tdiv n 10)) 10)), IntKind.u8.wrap (IntKind.i64.wrap (48 + Int.tmod n 10))]
def stTextL (d : StD) : List Int := stTwo (d.d0 / 100) ++ stTwo d.d0 ++ stTwo d.d1 ++ stTwo d.d2 ++ stTwo d.d3 ++ stTwo d.d4 ++ stTwo d.d5 ++ [90]
def stText (t : Int) : ByteArray := if stIn t = true then strOf (stTextL (stDated t)) else strOf []
def stDig (a b : Int) : Int := if a < 48 ∨ 57 < a ∨ b < 48 ∨ 57 < b then -100000 else 10 * (a - 48) + (b - 48)
def stDigits (s : ByteArray) : Int := stDig (bget s 0) (bget s 1)
def stNum : List Int → Int → Int
  | [], n => n
  | c :: r, n => if c < 48 ∨ 57 < c then -1 else stNum r (n * 10 + (c - 48))
def stNumber (s : ByteArray) : Int := stNum (bytesOf s) 0
def stRead (s : ByteArray) : Int × Int :=
  if s.size = 15 ∧ bget s 14 = 90 then
    let y := stDig (bget s 2) (bget s 3) + 100 * stDig (bget s 0) (bget s 1)
    let m := stDig (bget s 4) (bget s 5)
    let d := stDig (bget s 6) (bget s 7)
    let h := stDig (bget s 8) (bget s 9)
    let i := stDig (bget s 10) (bget s 11)
    let c := stDig (bget s 12) (bget s 13)
    if stFit y m d h i c = true then (stSecs y m d h i c, 0) else (0, 1)
  else (0, 1)

end Go.Proofs.YtbgkadaidhgggaaDoorA

namespace Go.Proofs.YtbgkadaidhgggaaDoorA

abbrev LI := List Int
abbrev LC := List CV
abbrev OO := Option Out
abbrev KT := Ex → St → Option Out
/-! ### bytes -/
def byteB (x : Int) : Bool := decide (0 ≤ x ∧ x ≤ 255)
noncomputable def bytesOk (b : List Int) : Bool := shut (decide (b.length ≤ 1000000) && b.all byteB)
noncomputable def bytesAll (b : List Int) : Bool := shut (b.all byteB)
noncomputable def lenOk (b : List Int) : Bool := shut (decide (b.length ≤ 100000000))
noncomputable def u32Ok (n : Int) : Bool := shut (decide (0 ≤ n ∧ n ≤ 4294967295))
noncomputable def deepOk (n : Int) : Bool := shut (decide (0 ≤ n ∧ n ≤ 1000))
def listSameC (a b : List Int) : Bool := decide (a = b)
noncomputable def listSame (a b : List Int) : Bool := shut (listSameC a b)
def listCmpC : List Int → List Int → Int
  | [], [] => 0
  | [], _ :: _ => -1
  | _ :: _, [] => 1
  | x :: a, y :: b => if x < y then -1 else if y < x then 1 else listCmpC a b
noncomputable def listCmp (a b : List Int) : Int := shut (listCmpC a b)
noncomputable def listLess (a b : List Int) : Bool := shut (decide (listCmpC a b < 0))
def bytesNumC (b : List Int) : Int := b.foldl (fun n x => n * 256 + x) 0
noncomputable def bytesNum (b : List Int) : Int := shut (bytesNumC b)

/-! ### tags, numbers, bits -/
def derBoxedC (tag : Int) : Bool := decide (tag = 48 ∨ tag = 49 ∨ (160 ≤ tag ∧ tag ≤ 190))
noncomputable def derBoxed (tag : Int) : Bool := shut (derBoxedC tag)
def derKnownC (tag : Int) : Bool := decide (tag = 1 ∨ tag = 2 ∨ tag = 3 ∨ tag = 4 ∨ tag = 5 ∨ tag = 6 ∨ tag = 12 ∨ tag = 24) || (derBoxedC tag || decide (128 ≤ tag ∧ tag ≤ 158))
noncomputable def derKnown (tag : Int) : Bool := shut (derKnownC tag)
def derLenSizeC (n : Int) : Int := if n < 128 then 1 else if n < 256 then 2 else if n < 65536 then 3 else 4
noncomputable def derLenSize (n : Int) : Int := shut (derLenSizeC n)
def derNumberC : List Int → Bool
  | [] => false
  | [_] => true
  | x :: y :: _ => !(decide (x = 0 ∧ y < 128)) && !(decide (x = 255 ∧ 128 ≤ y))
noncomputable def derNumber (b : List Int) : Bool := shut (derNumberC b)
def derStripC : List Int → Bool
  | [] => false
  | [x] => decide (x = 0)
  | x :: y :: r => decide (x ≤ 7) && decide ((y :: r).getLast (by simp) % 2 ^ x.toNat = 0)
noncomputable def derStrip (b : List Int) : Bool := shut (derStripC b)

/-! ### characters -/
def u8At (l : List Int) (k : Nat) : Bool := match l[k]? with | some x => decide (128 ≤ x ∧ x < 192) | none => false
noncomputable def u8Cont (b : List Int) (i : Int) : Bool := shut (u8At b i.toNat)
def u8RuneC : List Int → Int
  | [] => 0
  | c :: r =>
    if c < 128 then 1
    else if 194 ≤ c ∧ c ≤ 223 ∧ u8At r 0 = true then 2
    else if 224 ≤ c ∧ c ≤ 239 ∧ u8At r 0 = true ∧ u8At r 1 = true ∧ (c = 224 → 160 ≤ r.headD 0) ∧ (c = 237 → r.headD 0 < 160) then 3
    else if 240 ≤ c ∧ c ≤ 244 ∧ u8At r 0 = true ∧ u8At r 1 = true ∧ u8At r 2 = true ∧ (c = 240 → 144 ≤ r.headD 0) ∧ (c = 244 → r.headD 0 < 144) then 4
    else 0
noncomputable def u8Rune (b : List Int) (i : Int) : Int := shut (u8RuneC (b.drop i.toNat))
def u8ValidF : Nat → List Int → Bool
  | 0, _ => true
  | n + 1, l => if l = [] then true else if u8RuneC l = 0 then false else u8ValidF n (l.drop (u8RuneC l).toNat)
def u8ValidC (l : List Int) : Bool := u8ValidF l.length l
noncomputable def u8Valid (b : List Int) : Bool := shut (u8ValidC b)
def u8WordC (l : List Int) : Int :=
  ((l.getD 0 0).toNat ||| (l.getD 1 0).toNat * 2 ^ 8 ||| (l.getD 2 0).toNat * 2 ^ 16 ||| (l.getD 3 0).toNat * 2 ^ 24 ||| (l.getD 4 0).toNat * 2 ^ 32 ||| (l.getD 5 0).toNat * 2 ^ 40 ||| (l.getD 6 0).toNat * 2 ^ 48 ||| (l.getD 7 0).toNat * 2 ^ 56 : Nat)
noncomputable def u8Word (b : List Int) : Int := shut (u8WordC b)
def u8FirstC : List Int := List.replicate 128 240 ++ List.replicate 66 241 ++ List.replicate 30 2 ++ [19] ++ List.replicate 12 3 ++ [35] ++ List.replicate 2 3 ++ [52] ++ List.replicate 3 4 ++ [68] ++ List.replicate 11 241
def u8AcceptC : List CV := ([(128, 191), (160, 191), (128, 159), (144, 191), (128, 143)] ++ List.replicate 11 (0, 0) : List (Int × Int)).map fun p => .agg [.int .u8 p.1, .int .u8 p.2]
noncomputable def u8First : List Int := shut u8FirstC
noncomputable def u8Accept : List CV := shut u8AcceptC
noncomputable def glDer : Nat → Option CV := fun g => cond (Nat.beq g 0) (some (.aggi 256 .u8 u8First)) (cond (Nat.beq g 1) (some (.agga 16 2 u8Accept)) none)

/-! ### identifiers -/
def oidFitC : List Int → Bool
  | x :: y :: r => decide (r.length ≤ 18) && (decide (x < 2 ∧ y < 40) || decide (x = 2 ∧ y ≤ 4294967215))
  | _ => false
noncomputable def oidFit (o : List Int) : Bool := shut (oidFitC o)
def oidFirstC (n : Int) : List Int := if n < 80 then [n / 40, n % 40] else [2, n - 80]
noncomputable def oidFirst (n : Int) : List Int := shut (oidFirstC n)
/-- the number that bytes begin with, and how many bytes it has -/
def oidNumG : Int → Int → List Int → Int × Int
  | _, _, [] => (0, 0)
  | n, i, c :: r => if (i = 0 ∧ c = 128) ∨ 33554431 < n then (0, 0) else if c < 128 then (n * 128 + c, i + 1) else oidNumG (n * 128 + (c - 128)) (i + 1) r
def oidNumberC (b : List Int) : Int × Int := oidNumG 0 0 b
noncomputable def oidNumber (b : List Int) : Int × Int := shut (oidNumberC b)
def oidNumsF : Nat → List Int → List (Int × Bool)
  | 0, _ => []
  | n + 1, b => if b = [] then [] else if (oidNumberC b).2 = 0 then [((oidNumberC b).1, false)] else ((oidNumberC b).1, true) :: oidNumsF n (b.drop (oidNumberC b).2.toNat)
def oidNumsC (b : List Int) : List (Int × Bool) := oidNumsF b.length b
noncomputable def oidNums (b : List Int) : List (Int × Bool) := shut (oidNumsC b)
noncomputable def oidRows (l : List (Int × Bool)) : List (List CV) := shut (l.map fun p => [.int .u32 p.1, .bool p.2])
def oidGo : List (Int × Bool) → List Int → Option (List Int)
  | [], o => some o
  | (n, ok) :: r, o => if ok = false ∨ 20 < o.length then none else if o = [] then oidGo r (oidFirstC n) else oidGo r (o ++ [n])
def oidParseC (b : List Int) : List Int × Int := match oidGo (oidNumsC b) [] with
  | some o => if oidFitC o = true then (o, 0) else ([], 5)
  | none => ([], 5)
noncomputable def oidParse (b : List Int) : List Int × Int := shut (oidParseC b)

/-! ### values -/
def derFitsC (tag : Int) (b : List Int) : Bool :=
  if tag = 1 then decide (b = [0] ∨ b = [255])
  else if tag = 2 then derNumberC b
  else if tag = 3 then derStripC b
  else if tag = 5 then decide (b = [])
  else if tag = 6 then decide ((oidParseC b).2 = 0)
  else if tag = 12 then u8ValidC b
  else if tag = 24 then decide ((stRead (strOf b)).2 = 0)
  else true
noncomputable def derFits (tag : Int) (b : List Int) : Bool := shut (derFitsC tag b)
/-- a length, and how many bytes it has; 0: none -/
def derLengthC : List Int → Int × Int
  | [] => (0, 0)
  | c :: t => if c < 128 then (c, 1) else if c = 128 ∨ 131 < c ∨ (t.length : Int) < c - 128 then (0, 0)
    else if t.headD 0 = 0 ∨ bytesNumC (t.take (c - 128).toNat) < 128 then (0, 0) else (bytesNumC (t.take (c - 128).toNat), 1 + (c - 128))
noncomputable def derLength (b : List Int) : Int × Int := shut (derLengthC b)
noncomputable def rdLenOk (l : List Int) : Bool := shut (!(decide ((derLengthC l).2 = 0)))
noncomputable def rdLength (l : List Int) : Int × List Int := shut ((derLengthC l).1, l.drop (derLengthC l).2.toNat)
def rdLenRestC : List Int → List Int
  | [] => []
  | c :: t => if c = 128 ∨ 131 < c then t else t.drop (c - 128).toNat
noncomputable def rdLenRest (l : List Int) : List Int := shut (rdLenRestC l)
abbrev Nd := Int × List Int × List CV
def nd0 : Nd := (0, [], [])
def ndCV (x : Nd) : CV := .agg [.int .i64 x.1, .sli .u8 x.2.1, .slg 3 x.2.2]
def rowsSortedC : List (List Int) → Bool
  | a :: b :: r => decide (listCmpC a b ≤ 0) && rowsSortedC (b :: r)
  | _ => true
def rowB (l : List Int) : Bool := decide (l.length ≤ 1000000) && l.all byteB
def rowCV : CV → Bool
  | .sli .u8 l => rowB l
  | _ => false
noncomputable def rowsOk (l : List CV) : Bool := shut (decide (l.length ≤ 1000000) && l.all rowCV)
noncomputable def rowsSorted (l : List CV) : Bool := shut (rowsSortedC (l.map cvSli))
noncomputable def rowsJoin (l : List CV) : List Int := shut (l.flatMap cvSli)
/-- the values that bytes are, one behind the other: an error, the values, their bytes -/
def partsF (f : List Int → Int × Nd × Int) : Nat → List Int → Int × List Nd × List (List Int)
  | 0, _ => (0, [], [])
  | m + 1, b => if b = [] then (0, [], []) else
    if (f b).1 = 0 then
      let p := partsF f m (b.drop (f b).2.2.toNat)
      (p.1, (f b).2.1 :: p.2.1, b.take (f b).2.2.toNat :: p.2.2)
    else ((f b).1, [], [])
/-- the value that bytes begin with: an error, the value, how many bytes it has -/
def parseF : Nat → List Int → Int × Nd × Int
  | 0, _ => (3, nd0, 0)
  | n + 1, b => match b with
    | [] => (1, nd0, 0)
    | t :: r => if derKnownC t = false then (4, nd0, 0)
      else if (derLengthC r).2 = 0 ∨ (r.length : Int) - (derLengthC r).2 < (derLengthC r).1 then (1, nd0, 0)
      else
        let inside := (r.drop (derLengthC r).2.toNat).take (derLengthC r).1.toNat
        let used := 1 + (derLengthC r).2 + (derLengthC r).1
        if derBoxedC t = false then (if derFitsC t inside = true then (0, (t, inside, []), used) else (5, nd0, 0))
        else
          let p := partsF (parseF n) inside.length inside
          if p.1 = 0 then (if t = 49 ∧ rowsSortedC p.2.2 = false then (6, nd0, 0) else (0, (t, [], p.2.1.map ndCV), used)) else (p.1, nd0, 0)
noncomputable def ndRead (b : List Int) (d : Int) : Nd × Int × Int := shut (let p := parseF d.toNat b; if p.1 = 0 then (p.2.1, p.2.2, 0) else (nd0, 0, p.1))
def ndParseC (b : List Int) : Nd × Int := let p := parseF 32 b; if p.1 = 0 then (if p.2.2 < b.length then (nd0, 7) else (p.2.1, 0)) else (nd0, p.1)
noncomputable def ndParse (b : List Int) : Nd × Int := shut (ndParseC b)
/-- where a reader stands -/
def rdRestC (l : List Int) (d : Int) : List Int :=
  if d ≤ 0 then l else match l with
    | [] => []
    | t :: r => if derKnownC t = false then r
      else if (derLengthC r).2 = 0 then rdLenRestC r
      else if (r.length : Int) - (derLengthC r).2 < (derLengthC r).1 then r.drop (derLengthC r).2.toNat
      else r.drop ((derLengthC r).2 + (derLengthC r).1).toNat
noncomputable def rdVal (l : List Int) (d : Int) : Int × Nd × List Int := shut ((parseF d.toNat l).1, (parseF d.toNat l).2.1, rdRestC l d)
noncomputable def rdParts (tag : Int) (b : List Int) (d : Int) : Int × Nd := shut (
  let p := partsF (parseF (d - 1).toNat) b.length b
  if p.1 = 0 then (if tag = 49 ∧ rowsSortedC p.2.2 = false then (6, nd0) else (0, (tag, [], p.2.1.map ndCV))) else (p.1, nd0))

/-! ### are two the same? -/
def isNf : Nat → List CV → Bool
  | 0, _ => false
  | n + 1, [.int .i64 _, .sli .u8 b, .slg 3 l] => decide (b.length ≤ 100000000) && (decide (l.length ≤ 100000000) && l.all fun c => match c with | .agg x => isNf n x | _ => false)
  | _ + 1, _ => false
def isNk (n : Nat) : CV → Bool
  | .agg x => isNf n x
  | _ => false
noncomputable def isNr (n : Nat) (l : List CV) : Bool := shut (isNf n l)
noncomputable def isN (l : List CV) : Bool := shut (@decide (∃ n, isNf n l = true) (Classical.propDecidable _))
noncomputable def isNsr (n : Nat) (l : List CV) : Bool := shut (decide (l.length ≤ 100000000) && l.all (isNk n))
noncomputable def isNs (l : List CV) : Bool := shut (@decide (l.length ≤ 100000000 ∧ ∃ n, l.all (isNk n) = true) (Classical.propDecidable _))
noncomputable def ndSame (a b : List CV) : Bool := shut (@decide (a = b) (Classical.propDecidable _))
noncomputable def ndsSame (a b : List CV) : Bool := shut (@decide (a = b) (Classical.propDecidable _))

end Go.Proofs.YtbgkadaidhgggaaDoorA

set_option linter.unusedSimpArgs false
set_option maxRecDepth 100000
namespace Go.Proofs.YtbgkadaidhgggaaDoorA
noncomputable def SDigits : List V → List Obj → Tree := fun xs obs => match xs, obs with
  | [.cl (.str s)], [] => .leaf (.ret [.cl (.int .i64 (stDigits s))] [])
  | _, _ => .fail
noncomputable def preDigits : List V → List Obj → Bool := fun xs obs => match xs, obs with
  | [.cl (.str s)], [] => decide (2 ≤ s.size)
  | _, _ => false
noncomputable def SDLeap : List V → List Obj → Tree := fun xs obs => match xs, obs with
  | [.cl (.aggi 6 .i64 [d0, d1, d2, d3, d4, d5])], [] => .leaf (.ret [.cl (.bool (stLeap d0))] [])
  | _, _ => .fail
noncomputable def preDLeap : List V → List Obj → Bool := fun xs obs => match xs, obs with
  | [.cl (.aggi 6 .i64 [d0, d1, d2, d3, d4, d5])], [] => stOk d0
  | _, _ => false
noncomputable def SDDays : List V → List Obj → Tree := fun xs obs => match xs, obs with
  | [.cl (.aggi 6 .i64 [d0, d1, d2, d3, d4, d5])], [] => .leaf (.ret [.cl (.int .i64 (stDays d0 d1))] [])
  | _, _ => .fail
noncomputable def preDDays : List V → List Obj → Bool := fun xs obs => match xs, obs with
  | [.cl (.aggi 6 .i64 [d0, d1, d2, d3, d4, d5])], [] => stOk d0
  | _, _ => false
noncomputable def SDFit : List V → List Obj → Tree := fun xs obs => match xs, obs with
  | [.cl (.aggi 6 .i64 [d0, d1, d2, d3, d4, d5])], [] => .leaf (.ret [.cl (.bool (stFit d0 d1 d2 d3 d4 d5))] [])
  | _, _ => .fail
noncomputable def preDFit : List V → List Obj → Bool := fun xs obs => match xs, obs with
  | [.cl (.aggi 6 .i64 [d0, d1, d2, d3, d4, d5])], [] => true
  | _, _ => false
noncomputable def SDSecs : List V → List Obj → Tree := fun xs obs => match xs, obs with
  | [.cl (.aggi 6 .i64 [d0, d1, d2, d3, d4, d5])], [] => .leaf (.ret [.cl (.int .i64 (stSecs d0 d1 d2 d3 d4 d5))] [])
  | _, _ => .fail
noncomputable def preDSecs : List V → List Obj → Bool := fun xs obs => match xs, obs with
  | [.cl (.aggi 6 .i64 [d0, d1, d2, d3, d4, d5])], [] => stFit d0 d1 d2 d3 d4 d5
  | _, _ => false
noncomputable def SSRead : List V → List Obj → Tree := fun xs obs => match xs, obs with
  | [.cl (.str s)], [] => .leaf (.ret [.cl (.int .i64 ((stRead s).1)), .cl (.int .i64 ((stRead s).2))] [])
  | _, _ => .fail
noncomputable def preSRead : List V → List Obj → Bool := fun xs obs => match xs, obs with
  | [.cl (.str s)], [] => true
  | _, _ => false
noncomputable def SRLeap : List V → List Obj → Tree := fun xs obs => match xs, obs with
  | [.cl (.int .i64 y)], [] => .leaf (.ret [.cl (.bool (stLeap y))] [])
  | _, _ => .fail
noncomputable def preRLeap : List V → List Obj → Bool := fun xs obs => match xs, obs with
  | [.cl (.int .i64 y)], [] => stOk y
  | _, _ => false
noncomputable def SRDays : List V → List Obj → Tree := fun xs obs => match xs, obs with
  | [.cl (.int .i64 y), .cl (.int .i64 m)], [] => .leaf (.ret [.cl (.int .i64 (stMonth y m))] [])
  | _, _ => .fail
noncomputable def preRDays : List V → List Obj → Bool := fun xs obs => match xs, obs with
  | [.cl (.int .i64 y), .cl (.int .i64 m)], [] => true
  | _, _ => false
noncomputable def SRYears : List V → List Obj → Tree := fun xs obs => match xs, obs with
  | [.cl (.int .i64 y)], [] => .leaf (.ret [.cl (.int .i64 (stYears y))] [])
  | _, _ => .fail
noncomputable def preRYears : List V → List Obj → Bool := fun xs obs => match xs, obs with
  | [.cl (.int .i64 y)], [] => stOk y
  | _, _ => false
noncomputable def SRNumber : List V → List Obj → Tree := fun xs obs => match xs, obs with
  | [.cl (.str s)], [] => .leaf (.ret [.cl (.int .i64 (stNumber s))] [])
  | _, _ => .fail
noncomputable def preRNumber : List V → List Obj → Bool := fun xs obs => match xs, obs with
  | [.cl (.str s)], [] => decide (s.size ≤ 18)
  | _, _ => false
noncomputable def SRRead : List V → List Obj → Tree := fun xs obs => match xs, obs with
  | [.cl (.str s)], [] => .leaf (.ret [.cl (.int .i64 ((stRead s).1)), .cl (.int .i64 ((stRead s).2))] [])
  | _, _ => .fail
noncomputable def preRRead : List V → List Obj → Bool := fun xs obs => match xs, obs with
  | [.cl (.str s)], [] => true
  | _, _ => false
noncomputable def SDBoxed : List V → List Obj → Tree := fun xs obs => match xs, obs with
  | [.cl (.int .i64 tag)], [] => .leaf (.ret [.cl (.bool (derBoxed tag))] [])
  | _, _ => .fail
noncomputable def preDBoxed : List V → List Obj → Bool := fun xs obs => match xs, obs with
  | [.cl (.int .i64 tag)], [] => true
  | _, _ => false
noncomputable def SRBoxed : List V → List Obj → Tree := fun xs obs => match xs, obs with
  | [.cl (.int .i64 tag)], [] => .leaf (.ret [.cl (.bool (derBoxed tag))] [])
  | _, _ => .fail
noncomputable def preRBoxed : List V → List Obj → Bool := fun xs obs => match xs, obs with
  | [.cl (.int .i64 tag)], [] => true
  | _, _ => false
noncomputable def SDKnown : List V → List Obj → Tree := fun xs obs => match xs, obs with
  | [.cl (.int .i64 tag)], [] => .leaf (.ret [.cl (.bool (derKnown tag))] [])
  | _, _ => .fail
noncomputable def preDKnown : List V → List Obj → Bool := fun xs obs => match xs, obs with
  | [.cl (.int .i64 tag)], [] => true
  | _, _ => false
noncomputable def SRTagged : List V → List Obj → Tree := fun xs obs => match xs, obs with
  | [.cl (.int .i64 tag)], [] => .leaf (.ret [.cl (.bool (derKnown tag))] [])
  | _, _ => .fail
noncomputable def preRTagged : List V → List Obj → Bool := fun xs obs => match xs, obs with
  | [.cl (.int .i64 tag)], [] => true
  | _, _ => false
noncomputable def SDLenSize : List V → List Obj → Tree := fun xs obs => match xs, obs with
  | [.cl (.int .i64 n)], [] => .leaf (.ret [.cl (.int .i64 (derLenSize n))] [])
  | _, _ => .fail
noncomputable def preDLenSize : List V → List Obj → Bool := fun xs obs => match xs, obs with
  | [.cl (.int .i64 n)], [] => true
  | _, _ => false
noncomputable def SDNumber : List V → List Obj → Tree := fun xs obs => match xs, obs with
  | [.cl (.sli .u8 b)], [] => .leaf (.ret [.cl (.bool (derNumber b))] [])
  | _, _ => .fail
noncomputable def preDNumber : List V → List Obj → Bool := fun xs obs => match xs, obs with
  | [.cl (.sli .u8 b)], [] => bytesOk b
  | _, _ => false
noncomputable def SRFitInt : List V → List Obj → Tree := fun xs obs => match xs, obs with
  | [.cl (.sli .u8 b)], [] => .leaf (.ret [.cl (.bool (derNumber b))] [])
  | _, _ => .fail
noncomputable def preRFitInt : List V → List Obj → Bool := fun xs obs => match xs, obs with
  | [.cl (.sli .u8 b)], [] => bytesOk b
  | _, _ => false
noncomputable def SDStrip : List V → List Obj → Tree := fun xs obs => match xs, obs with
  | [.cl (.sli .u8 b)], [] => .leaf (.ret [.cl (.bool (derStrip b))] [])
  | _, _ => .fail
noncomputable def preDStrip : List V → List Obj → Bool := fun xs obs => match xs, obs with
  | [.cl (.sli .u8 b)], [] => bytesOk b
  | _, _ => false
noncomputable def SRFitBits : List V → List Obj → Tree := fun xs obs => match xs, obs with
  | [.cl (.sli .u8 b)], [] => .leaf (.ret [.cl (.bool (derStrip b))] [])
  | _, _ => .fail
noncomputable def preRFitBits : List V → List Obj → Bool := fun xs obs => match xs, obs with
  | [.cl (.sli .u8 b)], [] => bytesOk b
  | _, _ => false
noncomputable def SRCont : List V → List Obj → Tree := fun xs obs => match xs, obs with
  | [.cl (.sli .u8 b), .cl (.int .i64 i)], [] => .leaf (.ret [.cl (.bool (u8Cont b i))] [])
  | _, _ => .fail
noncomputable def preRCont : List V → List Obj → Bool := fun xs obs => match xs, obs with
  | [.cl (.sli .u8 b), .cl (.int .i64 i)], [] => decide (0 ≤ i)
  | _, _ => false
noncomputable def SRRune : List V → List Obj → Tree := fun xs obs => match xs, obs with
  | [.cl (.sli .u8 b), .cl (.int .i64 i)], [] => .leaf (.ret [.cl (.int .i64 (u8Rune b i))] [])
  | _, _ => .fail
noncomputable def preRRune : List V → List Obj → Bool := fun xs obs => match xs, obs with
  | [.cl (.sli .u8 b), .cl (.int .i64 i)], [] => bytesOk b && decide (0 ≤ i ∧ i < b.length)
  | _, _ => false
noncomputable def SRUtf8 : List V → List Obj → Tree := fun xs obs => match xs, obs with
  | [.cl (.sli .u8 b)], [] => .leaf (.ret [.cl (.bool (u8Valid b))] [])
  | _, _ => .fail
noncomputable def preRUtf8 : List V → List Obj → Bool := fun xs obs => match xs, obs with
  | [.cl (.sli .u8 b)], [] => bytesOk b
  | _, _ => false
noncomputable def SOFit : List V → List Obj → Tree := fun xs obs => match xs, obs with
  | [.cl (.sli .u32 o)], [] => .leaf (.ret [.cl (.bool (oidFit o))] [])
  | _, _ => .fail
noncomputable def preOFit : List V → List Obj → Bool := fun xs obs => match xs, obs with
  | [.cl (.sli .u32 o)], [] => true
  | _, _ => false
noncomputable def SR2Fit : List V → List Obj → Tree := fun xs obs => match xs, obs with
  | [.cl (.sli .u32 o)], [] => .leaf (.ret [.cl (.bool (oidFit o))] [])
  | _, _ => .fail
noncomputable def preR2Fit : List V → List Obj → Bool := fun xs obs => match xs, obs with
  | [.cl (.sli .u32 o)], [] => true
  | _, _ => false
noncomputable def SR2First : List V → List Obj → Tree := fun xs obs => match xs, obs with
  | [.cl (.int .u64 n)], [] => .leaf (.ret [.cl (.sli .u32 (oidFirst n))] [])
  | _, _ => .fail
noncomputable def preR2First : List V → List Obj → Bool := fun xs obs => match xs, obs with
  | [.cl (.int .u64 n)], [] => u32Ok n
  | _, _ => false
noncomputable def SONumber : List V → List Obj → Tree := fun xs obs => match xs, obs with
  | [.cl (.sli .u8 b)], [] => .leaf (.ret [.cl (.int .u32 ((oidNumber b).1)), .cl (.int .i64 ((oidNumber b).2))] [])
  | _, _ => .fail
noncomputable def preONumber : List V → List Obj → Bool := fun xs obs => match xs, obs with
  | [.cl (.sli .u8 b)], [] => bytesOk b
  | _, _ => false
noncomputable def SONumbers : List V → List Obj → Tree := fun xs obs => match xs, obs with
  | [.cl (.sli .u8 b)], [] => .leaf (.ret [.fn (.func 75) [] [.ptr 0 0 0]] [some ⟨.var [.cl (.sli .u8 b)], false⟩])
  | _, _ => .fail
noncomputable def preONumbers : List V → List Obj → Bool := fun xs obs => match xs, obs with
  | [.cl (.sli .u8 b)], [] => true
  | _, _ => false
noncomputable def SOParse : List V → List Obj → Tree := fun xs obs => match xs, obs with
  | [.cl (.sli .u8 b)], [] => .leaf (.ret [.cl (.sli .u32 ((oidParse b).1)), .cl (.int .i64 ((oidParse b).2))] [])
  | _, _ => .fail
noncomputable def preOParse : List V → List Obj → Bool := fun xs obs => match xs, obs with
  | [.cl (.sli .u8 b)], [] => bytesOk b
  | _, _ => false
noncomputable def SR2Parse : List V → List Obj → Tree := fun xs obs => match xs, obs with
  | [.cl (.sli .u8 b)], [] => .leaf (.ret [.cl (.sli .u32 ((oidParse b).1)), .cl (.int .i64 ((oidParse b).2))] [])
  | _, _ => .fail
noncomputable def preR2Parse : List V → List Obj → Bool := fun xs obs => match xs, obs with
  | [.cl (.sli .u8 b)], [] => bytesOk b
  | _, _ => false
noncomputable def SR1Same : List V → List Obj → Tree := fun xs obs => match xs, obs with
  | [.cl (.sli .u8 a), .cl (.sli .u8 b)], [] => .leaf (.ret [.cl (.bool (listSame a b))] [])
  | _, _ => .fail
noncomputable def preR1Same : List V → List Obj → Bool := fun xs obs => match xs, obs with
  | [.cl (.sli .u8 a), .cl (.sli .u8 b)], [] => lenOk a
  | _, _ => false
noncomputable def SSClone : List V → List Obj → Tree := fun xs obs => match xs, obs with
  | [.cl (.sli .u8 b)], [] => .leaf (.ret [.cl (.sli .u8 b)] [])
  | _, _ => .fail
noncomputable def preSClone : List V → List Obj → Bool := fun xs obs => match xs, obs with
  | [.cl (.sli .u8 b)], [] => lenOk b
  | _, _ => false
noncomputable def SR1Num : List V → List Obj → Tree := fun xs obs => match xs, obs with
  | [.cl (.sli .u8 b)], [] => .leaf (.ret [.cl (.int .u64 (bytesNum b))] [])
  | _, _ => .fail
noncomputable def preR1Num : List V → List Obj → Bool := fun xs obs => match xs, obs with
  | [.cl (.sli .u8 b)], [] => bytesOk b && decide (b.length ≤ 7)
  | _, _ => false
noncomputable def SRLength : List V → List Obj → Tree := fun xs obs => match xs, obs with
  | [.cl (.sli .u8 b)], [] => .leaf (.ret [.cl (.int .i64 ((derLength b).1)), .cl (.int .i64 ((derLength b).2))] [])
  | _, _ => .fail
noncomputable def preRLength : List V → List Obj → Bool := fun xs obs => match xs, obs with
  | [.cl (.sli .u8 b)], [] => bytesOk b
  | _, _ => false
noncomputable def SR4Less : List V → List Obj → Tree := fun xs obs => match xs, obs with
  | [.cl (.sli .u8 a), .cl (.sli .u8 b)], [] => .leaf (.ret [.cl (.bool (listLess a b))] [])
  | _, _ => .fail
noncomputable def preR4Less : List V → List Obj → Bool := fun xs obs => match xs, obs with
  | [.cl (.sli .u8 a), .cl (.sli .u8 b)], [] => lenOk a
  | _, _ => false
noncomputable def SUWord : List V → List Obj → Tree := fun xs obs => match xs, obs with
  | [.cl (.sli .u8 b)], [] => .leaf (.ret [.cl (.int .u64 (u8Word b))] [])
  | _, _ => .fail
noncomputable def preUWord : List V → List Obj → Bool := fun xs obs => match xs, obs with
  | [.cl (.sli .u8 b)], [] => bytesOk b && decide (8 ≤ b.length)
  | _, _ => false
noncomputable def SUValid : List V → List Obj → Tree := fun xs obs => match xs, obs with
  | [.cl (.sli .u8 b)], [] => .leaf (.ret [.cl (.bool (u8Valid b))] [])
  | _, _ => .fail
noncomputable def preUValid : List V → List Obj → Bool := fun xs obs => match xs, obs with
  | [.cl (.sli .u8 b)], [] => bytesOk b
  | _, _ => false
noncomputable def SRSame : List V → List Obj → Tree := fun xs obs => match xs, obs with
  | [.cl (.agg a), .cl (.agg b)], [] => .leaf (.ret [.cl (.bool (ndSame a b))] [])
  | _, _ => .fail
noncomputable def preRSame : List V → List Obj → Bool := fun xs obs => match xs, obs with
  | [.cl (.agg a), .cl (.agg b)], [] => isN a && isN b
  | _, _ => false
noncomputable def preRRSame (rk : Nat) : List V → List Obj → Bool := fun xs obs => match xs, obs with
  | [.cl (.agg a), .cl (.agg b)], [] => isNr rk a && isN b
  | _, _ => false
noncomputable def SDFits : List V → List Obj → Tree := fun xs obs => match xs, obs with
  | [.cl (.int .i64 tag), .cl (.sli .u8 b)], [] => .leaf (.ret [.cl (.bool (derFits tag b))] [])
  | _, _ => .fail
noncomputable def preDFits : List V → List Obj → Bool := fun xs obs => match xs, obs with
  | [.cl (.int .i64 tag), .cl (.sli .u8 b)], [] => bytesOk b
  | _, _ => false
noncomputable def SRFits : List V → List Obj → Tree := fun xs obs => match xs, obs with
  | [.cl (.int .i64 tag), .cl (.sli .u8 b)], [] => .leaf (.ret [.cl (.bool (derFits tag b))] [])
  | _, _ => .fail
noncomputable def preRFits : List V → List Obj → Bool := fun xs obs => match xs, obs with
  | [.cl (.int .i64 tag), .cl (.sli .u8 b)], [] => bytesOk b
  | _, _ => false
noncomputable def SR4Sorted : List V → List Obj → Tree := fun xs obs => match xs, obs with
  | [.cl (.slg 1 l)], [] => .leaf (.ret [.cl (.bool (rowsSorted l))] [])
  | _, _ => .fail
noncomputable def preR4Sorted : List V → List Obj → Bool := fun xs obs => match xs, obs with
  | [.cl (.slg 1 l)], [] => rowsOk l
  | _, _ => false
noncomputable def SBACompare : List V → List Obj → Tree := fun xs obs => match xs, obs with
  | [.cl (.sli .u8 a), .cl (.sli .u8 b)], [] => .leaf (.ret [.cl (.int .i64 (listCmp a b))] [])
  | _, _ => .fail
noncomputable def preBACompare : List V → List Obj → Bool := fun xs obs => match xs, obs with
  | [.cl (.sli .u8 a), .cl (.sli .u8 b)], [] => bytesOk a && bytesOk b
  | _, _ => false
noncomputable def SBCompare : List V → List Obj → Tree := fun xs obs => match xs, obs with
  | [.cl (.sli .u8 a), .cl (.sli .u8 b)], [] => .leaf (.ret [.cl (.int .i64 (listCmp a b))] [])
  | _, _ => .fail
noncomputable def preBCompare : List V → List Obj → Bool := fun xs obs => match xs, obs with
  | [.cl (.sli .u8 a), .cl (.sli .u8 b)], [] => bytesOk a && bytesOk b
  | _, _ => false
noncomputable def SOLess : List V → List Obj → Tree := fun xs obs => match xs, obs with
  | [.cl (.sli .u8 a), .cl (.sli .u8 b)], [] => .leaf (.ret [.cl (.bool (decide (listCmp a b ≤ 0)))] [])
  | _, _ => .fail
noncomputable def preOLess : List V → List Obj → Bool := fun xs obs => match xs, obs with
  | [.cl (.sli .u8 a), .cl (.sli .u8 b)], [] => bytesOk a && bytesOk b
  | _, _ => false
noncomputable def SOSteps : List V → List Obj → Tree := fun xs obs => match xs, obs with
  | [.cl (.slg 1 l), .cl (.fn (.func 59) [] [])], [] => .leaf (.ret [.cl (.bool (rowsSorted l))] [])
  | _, _ => .fail
noncomputable def preOSteps : List V → List Obj → Bool := fun xs obs => match xs, obs with
  | [.cl (.slg 1 l), .cl (.fn (.func 59) [] [])], [] => rowsOk l
  | _, _ => false
noncomputable def SOSorted : List V → List Obj → Tree := fun xs obs => match xs, obs with
  | [.cl (.slg 1 l)], [] => .leaf (.ret [.cl (.bool (rowsSorted l))] [])
  | _, _ => .fail
noncomputable def preOSorted : List V → List Obj → Bool := fun xs obs => match xs, obs with
  | [.cl (.slg 1 l)], [] => rowsOk l
  | _, _ => false
noncomputable def SRReadN : List V → List Obj → Tree := fun xs obs => match xs, obs with
  | [.cl (.sli .u8 b), .cl (.int .i64 deep)], [] => .leaf (.ret [.cl (.agg [.int .i64 ((ndRead b deep).1.1), .sli .u8 ((ndRead b deep).1.2.1), .slg 3 ((ndRead b deep).1.2.2)]), .cl (.int .i64 ((ndRead b deep).2.1)), .cl (.int .i64 ((ndRead b deep).2.2))] [])
  | _, _ => .fail
noncomputable def preRReadN : List V → List Obj → Bool := fun xs obs => match xs, obs with
  | [.cl (.sli .u8 b), .cl (.int .i64 deep)], [] => bytesOk b && deepOk deep
  | _, _ => false
noncomputable def preRRReadN (rk : Nat) : List V → List Obj → Bool := fun xs obs => match xs, obs with
  | [.cl (.sli .u8 b), .cl (.int .i64 deep)], [] => bytesOk b && (deepOk deep && decide (deep.toNat < rk))
  | _, _ => false
noncomputable def SRParse : List V → List Obj → Tree := fun xs obs => match xs, obs with
  | [.cl (.sli .u8 b)], [] => .leaf (.ret [.cl (.agg [.int .i64 ((ndParse b).1.1), .sli .u8 ((ndParse b).1.2.1), .slg 3 ((ndParse b).1.2.2)]), .cl (.int .i64 ((ndParse b).2))] [])
  | _, _ => .fail
noncomputable def preRParse : List V → List Obj → Bool := fun xs obs => match xs, obs with
  | [.cl (.sli .u8 b)], [] => bytesOk b
  | _, _ => false
noncomputable def SDMust : List V → List Obj → Tree := fun xs obs => match xs, obs with
  | [.cl (.bool true), .cl (.int .i64 e)], [] => .leaf (.ret [] [])
  | [.cl (.bool false), .cl (.int .i64 e)], [] => .ite (true) (.leaf (.pan (.iface 47 (.agg [.int .i64 e])) [])) (.leaf (.ret [] []))
  | _, _ => .fail
noncomputable def preDMust : List V → List Obj → Bool := fun xs obs => match xs, obs with
  | [.cl (.bool true), .cl (.int .i64 e)], [] => true
  | [.cl (.bool false), .cl (.int .i64 e)], [] => true
  | _, _ => false
noncomputable def SDNext : List V → List Obj → Tree := fun xs obs => match xs, obs with
  | [.ptr 0 0 0], [⟨.var [.cl (.sli .u8 l), .cl (.int .i64 d)], false⟩] => .ite (l.isEmpty) (.leaf (.pan (.iface 47 (.agg [.int .i64 1])) [some ⟨.var [.cl (.sli .u8 l), .cl (.int .i64 d)], false⟩])) (.leaf (.ret [.cl (.int .i64 (l.headD 0))] [some ⟨.var [.cl (.sli .u8 l.tail), .cl (.int .i64 d)], false⟩]))
  | _, _ => .fail
noncomputable def preDNext : List V → List Obj → Bool := fun xs obs => match xs, obs with
  | [.ptr 0 0 0], [⟨.var [.cl (.sli .u8 l), .cl (.int .i64 d)], false⟩] => bytesOk l
  | _, _ => false
noncomputable def SDLength : List V → List Obj → Tree := fun xs obs => match xs, obs with
  | [.ptr 0 0 0], [⟨.var [.cl (.sli .u8 l), .cl (.int .i64 d)], false⟩] => .ite (!(rdLenOk l)) (.leaf (.pan (.iface 47 (.agg [.int .i64 1])) [some ⟨.var [.cl (.sli .u8 (rdLenRest l)), .cl (.int .i64 d)], false⟩])) (.leaf (.ret [.cl (.int .i64 ((rdLength l).1))] [some ⟨.var [.cl (.sli .u8 ((rdLength l).2)), .cl (.int .i64 d)], false⟩]))
  | _, _ => .fail
noncomputable def preDLength : List V → List Obj → Bool := fun xs obs => match xs, obs with
  | [.ptr 0 0 0], [⟨.var [.cl (.sli .u8 l), .cl (.int .i64 d)], false⟩] => bytesOk l
  | _, _ => false
noncomputable def SDValue : List V → List Obj → Tree := fun xs obs => match xs, obs with
  | [.ptr 0 0 0], [⟨.var [.cl (.sli .u8 l), .cl (.int .i64 d)], false⟩] => .ite (!(decide ((rdVal l d).1 = 0))) (.leaf (.pan (.iface 47 (.agg [.int .i64 ((rdVal l d).1)])) [some ⟨.var [.cl (.sli .u8 ((rdVal l d).2.2)), .cl (.int .i64 d)], false⟩])) (.leaf (.ret [.cl (.agg [.int .i64 ((rdVal l d).2.1.1), .sli .u8 ((rdVal l d).2.1.2.1), .slg 3 ((rdVal l d).2.1.2.2)])] [some ⟨.var [.cl (.sli .u8 ((rdVal l d).2.2)), .cl (.int .i64 d)], false⟩]))
  | _, _ => .fail
noncomputable def preDValue : List V → List Obj → Bool := fun xs obs => match xs, obs with
  | [.ptr 0 0 0], [⟨.var [.cl (.sli .u8 l), .cl (.int .i64 d)], false⟩] => bytesOk l && deepOk d
  | _, _ => false
noncomputable def preRDValue (rk : Nat) : List V → List Obj → Bool := fun xs obs => match xs, obs with
  | [.ptr 0 0 0], [⟨.var [.cl (.sli .u8 l), .cl (.int .i64 d)], false⟩] => bytesOk l && (deepOk d && decide (d.toNat < rk))
  | _, _ => false
noncomputable def SDParts : List V → List Obj → Tree := fun xs obs => match xs, obs with
  | [.ptr 0 0 0, .cl (.int .i64 tag), .cl (.sli .u8 b)], [⟨.var [.cl (.sli .u8 l), .cl (.int .i64 d)], false⟩] => .ite (!(decide ((rdParts tag b d).1 = 0))) (.leaf (.pan (.iface 47 (.agg [.int .i64 ((rdParts tag b d).1)])) [some ⟨.var [.cl (.sli .u8 l), .cl (.int .i64 d)], false⟩])) (.leaf (.ret [.cl (.agg [.int .i64 ((rdParts tag b d).2.1), .sli .u8 ((rdParts tag b d).2.2.1), .slg 3 ((rdParts tag b d).2.2.2)])] [some ⟨.var [.cl (.sli .u8 l), .cl (.int .i64 d)], false⟩]))
  | _, _ => .fail
noncomputable def preDParts : List V → List Obj → Bool := fun xs obs => match xs, obs with
  | [.ptr 0 0 0, .cl (.int .i64 tag), .cl (.sli .u8 b)], [⟨.var [.cl (.sli .u8 l), .cl (.int .i64 d)], false⟩] => bytesOk b && (deepOk d && decide (0 < d))
  | _, _ => false
noncomputable def preRDParts (rk : Nat) : List V → List Obj → Bool := fun xs obs => match xs, obs with
  | [.ptr 0 0 0, .cl (.int .i64 tag), .cl (.sli .u8 b)], [⟨.var [.cl (.sli .u8 l), .cl (.int .i64 d)], false⟩] => bytesOk b && (deepOk d && decide (0 < d ∧ d.toNat < rk + 1))
  | _, _ => false
noncomputable def SDParse : List V → List Obj → Tree := fun xs obs => match xs, obs with
  | [.cl (.sli .u8 b)], [] => .leaf (.ret [.cl (.agg [.int .i64 ((ndParse b).1.1), .sli .u8 ((ndParse b).1.2.1), .slg 3 ((ndParse b).1.2.2)]), .cl (.int .i64 ((ndParse b).2))] [])
  | _, _ => .fail
noncomputable def preDParse : List V → List Obj → Bool := fun xs obs => match xs, obs with
  | [.cl (.sli .u8 b)], [] => bytesOk b
  | _, _ => false
noncomputable def SLAwake : List V → List Obj → Tree := fun xs obs => match xs, obs with
  | [], [] => .leaf (.ret [.cl (.bool true)] [])
  | _, _ => .fail
noncomputable def preLAwake : List V → List Obj → Bool := fun xs obs => match xs, obs with
  | [], [] => true
  | _, _ => false
noncomputable def SLReads : List V → List Obj → Tree := fun xs obs => match xs, obs with
  | [.cl (.sli .u8 b)], [] => .leaf (.ret [.cl (.bool true)] [])
  | _, _ => .fail
noncomputable def preLReads : List V → List Obj → Bool := fun xs obs => match xs, obs with
  | [.cl (.sli .u8 b)], [] => bytesAll b
  | _, _ => false
noncomputable def SLDeep : List V → List Obj → Tree := fun xs obs => match xs, obs with
  | [.cl (.int .u8 n)], [] => .leaf (.ret [.cl (.bool true)] [])
  | _, _ => .fail
noncomputable def preLDeep : List V → List Obj → Bool := fun xs obs => match xs, obs with
  | [.cl (.int .u8 n)], [] => decide (0 ≤ n ∧ n ≤ 255)
  | _, _ => false
noncomputable def QONums : List V → List Obj → Option (List (List CV)) := fun xs obs => match xs, obs with
  | [.ptr 0 0 0], [⟨.var [.cl (.sli .u8 b)], false⟩] => some (oidRows (oidNums b))
  | _, _ => none
noncomputable def preONums : List V → List Obj → Bool := fun xs obs => match xs, obs with
  | [.ptr 0 0 0], [⟨.var [.cl (.sli .u8 b)], false⟩] => bytesOk b
  | _, _ => false
def okONums : List CV → Bool := fun x => match x with
  | [.int .u32 _, .bool _] => true
  | _ => false
theorem okONums_of {x : List CV} (h : okONums x = true) : ∃ e1 e2, x = [.int .u32 e1, .bool e2] := by
  unfold okONums at h
  split at h
  · exact ⟨_, _, rfl⟩
  · cases h
noncomputable def DDCatch : DSpec := fun m xs obs => match m, xs, obs with
  | none, [.ptr 0 0 0, .ptr 1 0 0], [⟨.var [.cl (.int .i64 t), .cl (.sli .u8 bb), .cl (.slg 3 kk)], false⟩, ⟨.var [.cl (.int .i64 e)], false⟩] => some (.ret [] [some ⟨.var [.cl (.int .i64 t), .cl (.sli .u8 bb), .cl (.slg 3 kk)], false⟩, some ⟨.var [.cl (.int .i64 e)], false⟩])
  | some (.iface 47 (.agg [.int .i64 why])), [.ptr 0 0 0, .ptr 1 0 0], [⟨.var [.cl (.int .i64 t), .cl (.sli .u8 bb), .cl (.slg 3 kk)], false⟩, ⟨.var [.cl (.int .i64 e)], false⟩] => some (.ret [] [some ⟨.var [.cl (.int .i64 0), .nils, .nils], false⟩, some ⟨.var [.cl (.int .i64 why)], false⟩])
  | some (.iface 47 (.agg [.int .i64 why])), [.ptr 0 0 0, .ptr 1 0 0], [⟨.var [.cl (.int .i64 t), .nils, .nils], false⟩, ⟨.var [.cl (.int .i64 e)], false⟩] => some (.ret [] [some ⟨.var [.cl (.int .i64 0), .nils, .nils], false⟩, some ⟨.var [.cl (.int .i64 why)], false⟩])
  | _, _, _ => none
noncomputable def preDDCatch : Option CV → List V → List Obj → Bool := fun m xs obs => match m, xs, obs with
  | none, [.ptr 0 0 0, .ptr 1 0 0], [⟨.var [.cl (.int .i64 t), .cl (.sli .u8 bb), .cl (.slg 3 kk)], false⟩, ⟨.var [.cl (.int .i64 e)], false⟩] => true
  | some (.iface 47 (.agg [.int .i64 why])), [.ptr 0 0 0, .ptr 1 0 0], [⟨.var [.cl (.int .i64 t), .cl (.sli .u8 bb), .cl (.slg 3 kk)], false⟩, ⟨.var [.cl (.int .i64 e)], false⟩] => true
  | some (.iface 47 (.agg [.int .i64 why])), [.ptr 0 0 0, .ptr 1 0 0], [⟨.var [.cl (.int .i64 t), .nils, .nils], false⟩, ⟨.var [.cl (.int .i64 e)], false⟩] => true
  | _, _, _ => false
end Go.Proofs.YtbgkadaidhgggaaDoorA
