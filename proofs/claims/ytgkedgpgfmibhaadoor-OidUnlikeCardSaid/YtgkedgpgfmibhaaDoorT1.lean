/-
  Times as plain functions: what the stamp layer computes. Conditions: none.
-/
import Derived.Test.YtgkedgpgfmibhaaDoorK3
import Derived.Lib.ItoaMem
import Derived.Lib.ParseIntB
import Derived.Lib.Split
import Derived.Lib.CountLaws
import Derived.Lib.IndexBytes
import Derived.Lib.Join
import Derived.Lib.LaidTab
import Derived.Test.YtgkedgpgfmibhaaDoorProg
set_option linter.unusedVariables false
namespace Go.Proofs.YtgkedgpgfmibhaaDoorA

def stOk (y : Int) : Bool := decide (1 ≤ y ∧ y ≤ 20000)
def stLeap (y : Int) : Bool := decide (y % 4 = 0 ∧ (y % 100 ≠ 0 ∨ y % 400 = 0))
def stDays (y m : Int) : Int := if m = 2 then (if stLeap y = true then 29 else 28) else if m = 4 ∨ m = 6 ∨ m = 9 ∨ m = 11 then 30 else 31
def stFit (y m d h i s : Int) : Bool := decide ((1 ≤ y ∧ y ≤ 9999 ∧ 1 ≤ m ∧ m ≤ 12) ∧ (1 ≤ d ∧ d ≤ stDays y m) ∧ 0 ≤ h ∧ h < 24 ∧ 0 ≤ i ∧ i < 60 ∧ 0 ≤ s ∧ s < 60)
def stMonth (y m : Int) : Int := if 1 ≤ y ∧ y ≤ 9999 ∧ 1 ≤ m ∧ m ≤ 12 then stDays y m else 0
def stYears (y : Int) : Int := (y - 1) * 365 + (y - 1) / 4 - (y - 1) / 100 + (y - 1) / 400
/-- the days ahead of a month in its year -/
def stAhead (y m : Int) : Int := if m ≤ 2 then 31 * (m - 1) else (153 * (m - 3) + 2) / 5 + 59 + (if stLeap y = true then 1 else 0)
def stSecs (y m d h i s : Int) : Int := -62135596800 + (stYears y + stAhead y m + (d - 1)) * 86400 + (h * 3600 + i * 60 + s)
def stI64 (t : Int) : Bool := decide (-9223372036854775808 ≤ t ∧ t ≤ 9223372036854775807)
def stIn (t : Int) : Bool := decide (-62135596800 ≤ t ∧ t ≤ 253402300799)
structure StD where
  d0 : Int
  d1 : Int
  d2 : Int
  d3 : Int
  d4 : Int
  d5 : Int
def stDated (t : Int) : StD :=
  let n := (t + 62135596800) / 86400
  let s := (t + 62135596800) % 86400
  let z := n + 306
  let doe := z % 146097
  let yoe := (doe - doe / 1460 + doe / 36524 - doe / 146096) / 365
  let doy := doe - (365 * yoe + yoe / 4 - yoe / 100)
  let mp := (5 * doy + 2) / 153
  let y := yoe + z / 146097 * 400
  let d := doy - (153 * mp + 2) / 5 + 1
  if 9 < mp then ⟨y + 1, mp - 9, d, s / 3600, s / 60 % 60, s % 60⟩ else ⟨y, mp + 3, d, s / 3600, s / 60 % 60, s % 60⟩
def stTwo (n : Int) : List Int := [IntKind.u8.wrap (IntKind.i64.wrap (48 + Int.tmod (IntKind.i64.wrap (Int.tdiv n 10)) 10)), IntKind.u8.wrap (IntKind.i64.wrap (48 + Int.tmod n 10))]
def stTextL (d : StD) : List Int := stTwo (d.d0 / 100) ++ stTwo d.d0 ++ stTwo d.d1 ++ stTwo d.d2 ++ stTwo d.d3 ++ stTwo d.d4 ++ stTwo d.d5 ++ [90]
def stText (t : Int) : ByteArray := if stIn t = true then strOf (stTextL (stDated t)) else strOf []
def stDig (a b : Int) : Int := if a < 48 ∨ 57 < a ∨ b < 48 ∨ 57 < b then -100000 else 10 * (a - 48) + (b - 48)
def stDigits (s : ByteArray) : Int := stDig (bget s 0) (bget s 1)
def stNum : List Int → Int → Int
  | [], n => n
  | c :: r, n => if c < 48 ∨ 57 < c then -1 else stNum r (n * 10 + (c - 48))
def stNumber (s : ByteArray) : Int := stNum (bytesOf s) 0
def stRead (s : ByteArray) : Int × Int :=
  if s.size = 15 ∧ bget s 14 = 90 then
    let y := stDig (bget s 2) (bget s 3) + 100 * stDig (bget s 0) (bget s 1)
    let m := stDig (bget s 4) (bget s 5)
    let d := stDig (bget s 6) (bget s 7)
    let h := stDig (bget s 8) (bget s 9)
    let i := stDig (bget s 10) (bget s 11)
    let c := stDig (bget s 12) (bget s 13)
    if stFit y m d h i c = true then (stSecs y m d h i c, 0) else (0, 1)
  else (0, 1)

end Go.Proofs.YtgkedgpgfmibhaaDoorA

namespace Go.Proofs.YtgkedgpgfmibhaaDoorA

abbrev LI := List Int
abbrev LC := List CV
abbrev OO := Option Out
abbrev KT := Ex → St → Option Out
abbrev qI (y : Int) : V := .cl (.int .i64 y)
abbrev qU (y : Int) : V := .cl (.int .u8 y)
abbrev qW (y : Int) : V := .cl (.int .u64 y)
abbrev qD (y : Int) : V := .cl (.int .u32 y)
abbrev qB (b : Bool) : V := .cl (.bool b)
abbrev qS (y : List Int) : V := .cl (.sli .u8 y)
abbrev qG (n : Nat) (y : List CV) : V := .cl (.slg n y)
/-! ### bytes -/
def byteB (x : Int) : Bool := decide (0 ≤ x ∧ x ≤ 255)
noncomputable def bytesOk (b : List Int) : Bool := shut (decide (b.length ≤ 1000000) && b.all byteB)
noncomputable def bytesAll (b : List Int) : Bool := shut (b.all byteB)
noncomputable def lenOk (b : List Int) : Bool := shut (decide (b.length ≤ 100000000))
noncomputable def u32Ok (n : Int) : Bool := shut (decide (0 ≤ n ∧ n ≤ 4294967295))
noncomputable def deepOk (n : Int) : Bool := shut (decide (0 ≤ n ∧ n ≤ 1000))
def listSameC (a b : List Int) : Bool := decide (a = b)
noncomputable def listSame (a b : List Int) : Bool := shut (listSameC a b)
def listCmpC : List Int → List Int → Int
  | [], [] => 0
  | [], _ :: _ => -1
  | _ :: _, [] => 1
  | x :: a, y :: b => if x < y then -1 else if y < x then 1 else listCmpC a b
noncomputable def listCmp (a b : List Int) : Int := shut (listCmpC a b)
noncomputable def listLess (a b : List Int) : Bool := shut (decide (listCmpC a b < 0))
def bytesNumC (b : List Int) : Int := b.foldl (fun n x => n * 256 + x) 0
noncomputable def bytesNum (b : List Int) : Int := shut (bytesNumC b)

/-! ### tags, numbers, bits -/
def derBoxedC (tag : Int) : Bool := decide (tag = 48 ∨ tag = 49 ∨ (160 ≤ tag ∧ tag ≤ 190))
noncomputable def derBoxed (tag : Int) : Bool := shut (derBoxedC tag)
def derKnownC (tag : Int) : Bool := decide (tag = 1 ∨ tag = 2 ∨ tag = 3 ∨ tag = 4 ∨ tag = 5 ∨ tag = 6 ∨ tag = 12 ∨ tag = 24) || (derBoxedC tag || decide (128 ≤ tag ∧ tag ≤ 158))
noncomputable def derKnown (tag : Int) : Bool := shut (derKnownC tag)
def derLenSizeC (n : Int) : Int := if n < 128 then 1 else if n < 256 then 2 else if n < 65536 then 3 else 4
noncomputable def derLenSize (n : Int) : Int := shut (derLenSizeC n)
def derNumberC : List Int → Bool
  | [] => false
  | [_] => true
  | x :: y :: _ => !(decide (x = 0 ∧ y < 128)) && !(decide (x = 255 ∧ 128 ≤ y))
noncomputable def derNumber (b : List Int) : Bool := shut (derNumberC b)
def derStripC : List Int → Bool
  | [] => false
  | [x] => decide (x = 0)
  | x :: y :: r => decide (x ≤ 7) && decide ((y :: r).getLast (by simp) % 2 ^ x.toNat = 0)
noncomputable def derStrip (b : List Int) : Bool := shut (derStripC b)

/-! ### characters -/
def u8At (l : List Int) (k : Nat) : Bool := match l[k]? with | some x => decide (128 ≤ x ∧ x < 192) | none => false
noncomputable def u8Cont (b : List Int) (i : Int) : Bool := shut (u8At b i.toNat)
def u8RuneC : List Int → Int
  | [] => 0
  | c :: r =>
    if c < 128 then 1
    else if 194 ≤ c ∧ c ≤ 223 ∧ u8At r 0 = true then 2
    else if 224 ≤ c ∧ c ≤ 239 ∧ u8At r 0 = true ∧ u8At r 1 = true ∧ (c = 224 → 160 ≤ r.headD 0) ∧ (c = 237 → r.headD 0 < 160) then 3
    else if 240 ≤ c ∧ c ≤ 244 ∧ u8At r 0 = true ∧ u8At r 1 = true ∧ u8At r 2 = true ∧ (c = 240 → 144 ≤ r.headD 0) ∧ (c = 244 → r.headD 0 < 144) then 4
    else 0
noncomputable def u8Rune (b : List Int) (i : Int) : Int := shut (u8RuneC (b.drop i.toNat))
def u8ValidF : Nat → List Int → Bool
  | 0, _ => true
  | n + 1, l => if l = [] then true else if u8RuneC l = 0 then false else u8ValidF n (l.drop (u8RuneC l).toNat)
def u8ValidC (l : List Int) : Bool := u8ValidF l.length l
noncomputable def u8Valid (b : List Int) : Bool := shut (u8ValidC b)
def u8WordC (l : List Int) : Int :=
  ((l.getD 0 0).toNat ||| (l.getD 1 0).toNat * 2 ^ 8 ||| (l.getD 2 0).toNat * 2 ^ 16 ||| (l.getD 3 0).toNat * 2 ^ 24 ||| (l.getD 4 0).toNat * 2 ^ 32 ||| (l.getD 5 0).toNat * 2 ^ 40 ||| (l.getD 6 0).toNat * 2 ^ 48 ||| (l.getD 7 0).toNat * 2 ^ 56 : Nat)
noncomputable def u8Word (b : List Int) : Int := shut (u8WordC b)
def u8FirstC : List Int := List.replicate 128 240 ++ List.replicate 66 241 ++ List.replicate 30 2 ++ [19] ++ List.replicate 12 3 ++ [35] ++ List.replicate 2 3 ++ [52] ++ List.replicate 3 4 ++ [68] ++ List.replicate 11 241
def u8AcceptC : List CV := ([(128, 191), (160, 191), (128, 159), (144, 191), (128, 143)] ++ List.replicate 11 (0, 0) : List (Int × Int)).map fun p => .agg [.int .u8 p.1, .int .u8 p.2]
noncomputable def u8First : List Int := shut u8FirstC
noncomputable def u8Accept : List CV := shut u8AcceptC
noncomputable def glDer : Nat → Option CV := fun g => cond (Nat.beq g 0) (some (.aggi 256 .u8 u8First)) (cond (Nat.beq g 1) (some (.agga 16 2 u8Accept)) none)

/-! ### identifiers -/
def oidFitC : List Int → Bool
  | x :: y :: r => decide (r.length ≤ 18) && (decide (x < 2 ∧ y < 40) || decide (x = 2 ∧ y ≤ 4294967215))
  | _ => false
noncomputable def oidFit (o : List Int) : Bool := shut (oidFitC o)
def oidFirstC (n : Int) : List Int := if n < 80 then [n / 40, n % 40] else [2, n - 80]
noncomputable def oidFirst (n : Int) : List Int := shut (oidFirstC n)
/-- the number that bytes begin with, and how many bytes it has -/
def oidNumG : Int → Int → List Int → Int × Int
  | _, _, [] => (0, 0)
  | n, i, c :: r => if (i = 0 ∧ c = 128) ∨ 33554431 < n then (0, 0) else if c < 128 then (n * 128 + c, i + 1) else oidNumG (n * 128 + (c - 128)) (i + 1) r
def oidNumberC (b : List Int) : Int × Int := oidNumG 0 0 b
noncomputable def oidNumber (b : List Int) : Int × Int := shut (oidNumberC b)
def oidNumsF : Nat → List Int → List (Int × Bool)
  | 0, _ => []
  | n + 1, b => if b = [] then [] else if (oidNumberC b).2 = 0 then [((oidNumberC b).1, false)] else ((oidNumberC b).1, true) :: oidNumsF n (b.drop (oidNumberC b).2.toNat)
def oidNumsC (b : List Int) : List (Int × Bool) := oidNumsF b.length b
noncomputable def oidNums (b : List Int) : List (Int × Bool) := shut (oidNumsC b)
noncomputable def oidRows (l : List (Int × Bool)) : List (List CV) := shut (l.map fun p => [.int .u32 p.1, .bool p.2])
def oidGo : List (Int × Bool) → List Int → Option (List Int)
  | [], o => some o
  | (n, ok) :: r, o => if ok = false ∨ 20 < o.length then none else if o = [] then oidGo r (oidFirstC n) else oidGo r (o ++ [n])
def oidParseC (b : List Int) : List Int × Int := match oidGo (oidNumsC b) [] with
  | some o => if oidFitC o = true then (o, 0) else ([], 5)
  | none => ([], 5)
noncomputable def oidParse (b : List Int) : List Int × Int := shut (oidParseC b)

/-! ### values -/
def derFitsC (tag : Int) (b : List Int) : Bool :=
  if tag = 1 then decide (b = [0] ∨ b = [255])
  else if tag = 2 then derNumberC b
  else if tag = 3 then derStripC b
  else if tag = 5 then decide (b = [])
  else if tag = 6 then decide ((oidParseC b).2 = 0)
  else if tag = 12 then u8ValidC b
  else if tag = 24 then decide ((stRead (strOf b)).2 = 0)
  else true
noncomputable def derFits (tag : Int) (b : List Int) : Bool := shut (derFitsC tag b)
/-- a length, and how many bytes it has; 0: none -/
def derLengthC : List Int → Int × Int
  | [] => (0, 0)
  | c :: t => if c < 128 then (c, 1) else if c = 128 ∨ 131 < c ∨ (t.length : Int) < c - 128 then (0, 0)
    else if t.headD 0 = 0 ∨ bytesNumC (t.take (c - 128).toNat) < 128 then (0, 0) else (bytesNumC (t.take (c - 128).toNat), 1 + (c - 128))
noncomputable def derLength (b : List Int) : Int × Int := shut (derLengthC b)
noncomputable def rdLenOk (l : List Int) : Bool := shut (!(decide ((derLengthC l).2 = 0)))
noncomputable def rdLength (l : List Int) : Int × List Int := shut ((derLengthC l).1, l.drop (derLengthC l).2.toNat)
def rdLenRestC : List Int → List Int
  | [] => []
  | c :: t => if c = 128 ∨ 131 < c then t else t.drop (c - 128).toNat
noncomputable def rdLenRest (l : List Int) : List Int := shut (rdLenRestC l)
abbrev Nd := Int × List Int × List CV
def nd0 : Nd := (0, [], [])
def ndCV (x : Nd) : CV := .agg [.int .i64 x.1, .sli .u8 x.2.1, .slg 3 x.2.2]
def rowsSortedC : List (List Int) → Bool
  | a :: b :: r => decide (listCmpC a b ≤ 0) && rowsSortedC (b :: r)
  | _ => true
def rowB (l : List Int) : Bool := decide (l.length ≤ 1000000) && l.all byteB
def rowCV : CV → Bool
  | .sli .u8 l => rowB l
  | _ => false
noncomputable def rowsOk (l : List CV) : Bool := shut (decide (l.length ≤ 1000000) && l.all rowCV)
noncomputable def rowsSorted (l : List CV) : Bool := shut (rowsSortedC (l.map cvSli))
noncomputable def rowsJoin (l : List CV) : List Int := shut (l.flatMap cvSli)
/-- the values that bytes are, one behind the other: an error, the values, their bytes -/
def partsF (f : List Int → Int × Nd × Int) : Nat → List Int → Int × List Nd × List (List Int)
  | 0, _ => (0, [], [])
  | m + 1, b => if b = [] then (0, [], []) else
    if (f b).1 = 0 then
      let p := partsF f m (b.drop (f b).2.2.toNat)
      (p.1, (f b).2.1 :: p.2.1, b.take (f b).2.2.toNat :: p.2.2)
    else ((f b).1, [], [])
/-- the value that bytes begin with: an error, the value, how many bytes it has -/
def parseF : Nat → List Int → Int × Nd × Int
  | 0, _ => (3, nd0, 0)
  | n + 1, b => match b with
    | [] => (1, nd0, 0)
    | t :: r => if derKnownC t = false then (4, nd0, 0)
      else if (derLengthC r).2 = 0 ∨ (r.length : Int) - (derLengthC r).2 < (derLengthC r).1 then (1, nd0, 0)
      else
        let inside := (r.drop (derLengthC r).2.toNat).take (derLengthC r).1.toNat
        let used := 1 + (derLengthC r).2 + (derLengthC r).1
        if derBoxedC t = false then (if derFitsC t inside = true then (0, (t, inside, []), used) else (5, nd0, 0))
        else
          let p := partsF (parseF n) inside.length inside
          if p.1 = 0 then (if t = 49 ∧ rowsSortedC p.2.2 = false then (6, nd0, 0) else (0, (t, [], p.2.1.map ndCV), used)) else (p.1, nd0, 0)
noncomputable def ndRead (b : List Int) (d : Int) : Nd × Int × Int := shut (let p := parseF d.toNat b; if p.1 = 0 then (p.2.1, p.2.2, 0) else (nd0, 0, p.1))
def ndParseC (b : List Int) : Nd × Int := let p := parseF 32 b; if p.1 = 0 then (if p.2.2 < b.length then (nd0, 7) else (p.2.1, 0)) else (nd0, p.1)
noncomputable def ndParse (b : List Int) : Nd × Int := shut (ndParseC b)
/-- where a reader stands -/
def rdRestC (l : List Int) (d : Int) : List Int :=
  if d ≤ 0 then l else match l with
    | [] => []
    | t :: r => if derKnownC t = false then r
      else if (derLengthC r).2 = 0 then rdLenRestC r
      else if (r.length : Int) - (derLengthC r).2 < (derLengthC r).1 then r.drop (derLengthC r).2.toNat
      else r.drop ((derLengthC r).2 + (derLengthC r).1).toNat
noncomputable def rdVal (l : List Int) (d : Int) : Int × Nd × List Int := shut ((parseF d.toNat l).1, (parseF d.toNat l).2.1, rdRestC l d)
noncomputable def rdParts (tag : Int) (b : List Int) (d : Int) : Int × Nd := shut (
  let p := partsF (parseF (d - 1).toNat) b.length b
  if p.1 = 0 then (if tag = 49 ∧ rowsSortedC p.2.2 = false then (6, nd0) else (0, (tag, [], p.2.1.map ndCV))) else (p.1, nd0))

/-! ### are two the same? -/
def isNf : Nat → List CV → Bool
  | 0, _ => false
  | n + 1, [.int .i64 _, .sli .u8 b, .slg 3 l] => decide (b.length ≤ 100000000) && (decide (l.length ≤ 100000000) && l.all fun c => match c with | .agg x => isNf n x | _ => false)
  | _ + 1, _ => false
def isNk (n : Nat) : CV → Bool
  | .agg x => isNf n x
  | _ => false
noncomputable def isNr (n : Nat) (l : List CV) : Bool := shut (isNf n l)
noncomputable def isN (l : List CV) : Bool := shut (@decide (∃ n, isNf n l = true) (Classical.propDecidable _))
noncomputable def isNsr (n : Nat) (l : List CV) : Bool := shut (decide (l.length ≤ 100000000) && l.all (isNk n))
noncomputable def isNs (l : List CV) : Bool := shut (@decide (l.length ≤ 100000000 ∧ ∃ n, l.all (isNk n) = true) (Classical.propDecidable _))
noncomputable def ndSame (a b : List CV) : Bool := shut (@decide (a = b) (Classical.propDecidable _))
noncomputable def ndsSame (a b : List CV) : Bool := shut (@decide (a = b) (Classical.propDecidable _))

end Go.Proofs.YtgkedgpgfmibhaaDoorA

namespace Go.Proofs.YtgkedgpgfmibhaaDoorA

def u32B (n : Int) : Bool := decide (0 ≤ n ∧ n ≤ 4294967295)
noncomputable def u32sOk (o : List Int) : Bool := shut (decide (o.length ≤ 1000) && o.all u32B)
noncomputable def u32All (o : List Int) : Bool := shut (decide (o.length ≤ 1000000000000000) && o.all u32B)
noncomputable def u64Ok (n : Int) : Bool := shut (decide (0 ≤ n ∧ n ≤ 18446744073709551615))
noncomputable def smallOk (n : Int) : Bool := shut (decide (0 ≤ n ∧ n < 100))
noncomputable def u64Pos (n : Int) : Bool := shut (decide (1 ≤ n ∧ n ≤ 18446744073709551615))
noncomputable def sizeOk (s : ByteArray) : Bool := shut (decide (s.size ≤ 1000000))
noncomputable def fmtOk (m : Nat) (n : Int) (l : List Int) : Bool := shut (decide (1 ≤ n ∧ n ≤ 18446744073709551615 ∧ m = Lib.nDigits n.toNat ∧ m ≤ 24 ∧ l.length = 24) && l.all byteB)
def dot : ByteArray := ⟨#[46]⟩
noncomputable def dotOk (t : ByteArray) : Bool := shut (decide (t.data.toList = [46]))

/-! ### bytes -/
def gHi : Nat → Int → List Int
  | 0, _ => []
  | f + 1, n => if n = 0 then [] else gHi f (n / 128) ++ [128 + n % 128]
def oidGroupsC (n : Int) : List Int := gHi 5 (n / 128) ++ [n % 128]
noncomputable def oidGroups (n : Int) : List Int := shut (oidGroupsC n)
def oidBytesC (o : List Int) : List Int := if oidFitC o = true then (match o with | x :: y :: r => oidGroupsC (40 * x + y) ++ r.flatMap oidGroupsC | _ => []) else []
noncomputable def oidBytes (o : List Int) : List Int := shut (oidBytesC o)

/-! ### texts -/
def digB (n : Int) : List UInt8 := Lib.decDigits n.toNat
def digSC (n : Int) : ByteArray := ⟨(digB n).toArray⟩
noncomputable def digS (n : Int) : ByteArray := shut (digSC n)
noncomputable def bitL (n : Int) : Int := shut (Lib.bitLen n.toNat : Int)
noncomputable def le64 (n : Int) : Bool := shut (decide (0 ≤ n ∧ n ≤ 64))
noncomputable def logL (n : Int) : Int := shut (n * 78913 / 262144)
noncomputable def boolI (b : Bool) : Int := shut (cond b 1 0)
noncomputable def digN (n : Int) : Int := shut (Lib.nDigits n.toNat : Int)
noncomputable def digL (n : Int) : List Int := shut ((digB n).map fun b => (b.toNat : Int))
noncomputable def strsOk (l : List CV) : Bool := shut (decide (l.length ≤ 1000) && l.all fun c => okStr c && decide ((cvStr c).size ≤ 1000))
def strJoinC (l : List CV) (s : ByteArray) : ByteArray := ⟨(Lib.join (l.map fun c => (cvStr c).data.toList) s.data.toList).toArray⟩
noncomputable def strJoin (l : List CV) (s : ByteArray) : ByteArray := shut (strJoinC l s)
noncomputable def dotCount (s : ByteArray) : Int := shut (Lib.countByte s.data.toList 46 : Int)
def dotSplitC (s : ByteArray) : List CV := (Lib.splitB dot 0 (Lib.countB s dot) s).map .str
noncomputable def dotSplit (s : ByteArray) : List CV := shut (dotSplitC s)
def puNum (s : ByteArray) : Lib.NumEnd Nat := Lib.parseUintB 32 s.data.toList
noncomputable def puOk (s : ByteArray) : Bool := shut (match puNum s with | .ok _ => true | _ => false)
noncomputable def puVal (s : ByteArray) : Int := shut (match puNum s with | .ok u => (u : Int) | .range => 4294967295 | _ => 0)
def oidTextC (o : List Int) : ByteArray := if oidFitC o = true then ⟨(Lib.join (o.map digB) [46]).toArray⟩ else ⟨#[]⟩
noncomputable def oidText (o : List Int) : ByteArray := shut (oidTextC o)
/-- the number that digits spell; none: there is another character, or there are too many -/
def decGo : Int → List UInt8 → Option Int
  | n, [] => some n
  | n, c :: r => if 48 ≤ c.toNat ∧ c.toNat ≤ 57 then decGo (n * 10 + (c.toNat - 48 : Nat)) r else none
def refNumC (s : ByteArray) (bound : Int) : Int × Bool := if 19 < s.size then (0, false) else match decGo 0 s.data.toList with
  | some n => (n, decide (n ≤ bound) && decide (digB n = s.data.toList))
  | none => (0, false)
noncomputable def refNum (s : ByteArray) (bound : Int) : Int × Bool := shut (refNumC s bound)
/-- a piece between points, as a number -/
def canon (w : List UInt8) : Option Int := match refNumC ⟨w.toArray⟩ 4294967295 with
  | (n, true) => some n
  | _ => none
def pcs (c : UInt8) : List UInt8 → List UInt8 → List (List UInt8)
  | cur, [] => [cur]
  | cur, x :: r => if x = c then cur :: pcs c [] r else pcs c (cur ++ [x]) r
def canons : List (List UInt8) → Option (List Int)
  | [] => some []
  | w :: r => match canon w, canons r with | some n, some l => some (n :: l) | _, _ => none
def oidReadC (s : ByteArray) : List Int × Int := match canons (pcs 46 [] s.data.toList) with
  | some o => if oidFitC o = true then (o, 0) else ([], 1)
  | none => ([], 1)
noncomputable def oidRead (s : ByteArray) : List Int × Int := shut (oidReadC s)
def pow10L : List Int := [1, 10, 100, 1000, 10000, 100000, 1000000, 10000000, 100000000, 1000000000, 10000000000, 100000000000, 1000000000000, 10000000000000, 100000000000000, 1000000000000000, 10000000000000000, 100000000000000000, 1000000000000000000, 10000000000000000000]
noncomputable def pow10S : List Int := shut pow10L
noncomputable def glOid : Nat → Option CV := fun g => cond (Nat.beq g 0) (some (.agg [.any 1])) (cond (Nat.beq g 1) (some (.agg [.any 0])) (cond (Nat.beq g 2) (some (.agg [.any 0])) (cond (Nat.beq g 3) (some (.aggi 20 .u64 pow10S)) none)))
end Go.Proofs.YtgkedgpgfmibhaaDoorA

set_option linter.unusedSimpArgs false
set_option maxRecDepth 100000
namespace Go.Proofs.YtgkedgpgfmibhaaDoorA
noncomputable def SOFit : List V → List Obj → Tree := fun xs obs => match xs, obs with
  | [.cl (.sli .u32 o)], [] => .leaf (.ret [.cl (.bool (oidFit o))] [])
  | _, _ => .fail
noncomputable def preOFit : List V → List Obj → Bool := fun xs obs => match xs, obs with
  | [.cl (.sli .u32 o)], [] => true
  | _, _ => false
noncomputable def SR2Fit : List V → List Obj → Tree := fun xs obs => match xs, obs with
  | [.cl (.sli .u32 o)], [] => .leaf (.ret [.cl (.bool (oidFit o))] [])
  | _, _ => .fail
noncomputable def preR2Fit : List V → List Obj → Bool := fun xs obs => match xs, obs with
  | [.cl (.sli .u32 o)], [] => true
  | _, _ => false
noncomputable def SR2First : List V → List Obj → Tree := fun xs obs => match xs, obs with
  | [.cl (.int .u64 n)], [] => .leaf (.ret [.cl (.sli .u32 (oidFirst n))] [])
  | _, _ => .fail
noncomputable def preR2First : List V → List Obj → Bool := fun xs obs => match xs, obs with
  | [.cl (.int .u64 n)], [] => u32Ok n
  | _, _ => false
noncomputable def SONumber : List V → List Obj → Tree := fun xs obs => match xs, obs with
  | [.cl (.sli .u8 b)], [] => .leaf (.ret [.cl (.int .u32 ((oidNumber b).1)), .cl (.int .i64 ((oidNumber b).2))] [])
  | _, _ => .fail
noncomputable def preONumber : List V → List Obj → Bool := fun xs obs => match xs, obs with
  | [.cl (.sli .u8 b)], [] => bytesOk b
  | _, _ => false
noncomputable def SONumbers : List V → List Obj → Tree := fun xs obs => match xs, obs with
  | [.cl (.sli .u8 b)], [] => .leaf (.ret [.fn (.func 33) [] [.ptr 0 0 0]] [some ⟨.var [.cl (.sli .u8 b)], false⟩])
  | _, _ => .fail
noncomputable def preONumbers : List V → List Obj → Bool := fun xs obs => match xs, obs with
  | [.cl (.sli .u8 b)], [] => true
  | _, _ => false
noncomputable def SOParse : List V → List Obj → Tree := fun xs obs => match xs, obs with
  | [.cl (.sli .u8 b)], [] => .leaf (.ret [.cl (.sli .u32 ((oidParse b).1)), .cl (.int .i64 ((oidParse b).2))] [])
  | _, _ => .fail
noncomputable def preOParse : List V → List Obj → Bool := fun xs obs => match xs, obs with
  | [.cl (.sli .u8 b)], [] => bytesOk b
  | _, _ => false
noncomputable def SR2Parse : List V → List Obj → Tree := fun xs obs => match xs, obs with
  | [.cl (.sli .u8 b)], [] => .leaf (.ret [.cl (.sli .u32 ((oidParse b).1)), .cl (.int .i64 ((oidParse b).2))] [])
  | _, _ => .fail
noncomputable def preR2Parse : List V → List Obj → Bool := fun xs obs => match xs, obs with
  | [.cl (.sli .u8 b)], [] => bytesOk b
  | _, _ => false
noncomputable def SR1Same : List V → List Obj → Tree := fun xs obs => match xs, obs with
  | [.cl (.sli .u8 a), .cl (.sli .u8 b)], [] => .leaf (.ret [.cl (.bool (listSame a b))] [])
  | _, _ => .fail
noncomputable def preR1Same : List V → List Obj → Bool := fun xs obs => match xs, obs with
  | [.cl (.sli .u8 a), .cl (.sli .u8 b)], [] => lenOk a
  | _, _ => false
noncomputable def SR2Same : List V → List Obj → Tree := fun xs obs => match xs, obs with
  | [.cl (.sli .u32 a), .cl (.sli .u32 b)], [] => .leaf (.ret [.cl (.bool (listSame a b))] [])
  | _, _ => .fail
noncomputable def preR2Same : List V → List Obj → Bool := fun xs obs => match xs, obs with
  | [.cl (.sli .u32 a), .cl (.sli .u32 b)], [] => lenOk a
  | _, _ => false
noncomputable def SSEq32 : List V → List Obj → Tree := fun xs obs => match xs, obs with
  | [.cl (.sli .u32 a), .cl (.sli .u32 b)], [] => .leaf (.ret [.cl (.bool (listSame a b))] [])
  | _, _ => .fail
noncomputable def preSEq32 : List V → List Obj → Bool := fun xs obs => match xs, obs with
  | [.cl (.sli .u32 a), .cl (.sli .u32 b)], [] => lenOk a
  | _, _ => false
noncomputable def SOSame : List V → List Obj → Tree := fun xs obs => match xs, obs with
  | [.cl (.sli .u32 a), .cl (.sli .u32 b)], [] => .leaf (.ret [.cl (.bool (listSame a b))] [])
  | _, _ => .fail
noncomputable def preOSame : List V → List Obj → Bool := fun xs obs => match xs, obs with
  | [.cl (.sli .u32 a), .cl (.sli .u32 b)], [] => lenOk a
  | _, _ => false
noncomputable def SOPut : List V → List Obj → Tree := fun xs obs => match xs, obs with
  | [.nils, .cl (.int .u32 n)], [] => .leaf (.ret [.ref 0 0 ((oidGroups n).length) true 1] [some ⟨.ints .u8 (oidGroups n), false⟩])
  | [.ref 0 0 m true 1, .cl (.int .u32 n)], [⟨.ints .u8 l, false⟩] => .leaf (.ret [.ref 1 0 ((l ++ oidGroups n).length) true 1] [none, some ⟨.ints .u8 (l ++ oidGroups n), false⟩])
  | _, _ => .fail
noncomputable def preOPut : List V → List Obj → Bool := fun xs obs => match xs, obs with
  | [.nils, .cl (.int .u32 n)], [] => u32Ok n
  | [.ref 0 0 m true 1, .cl (.int .u32 n)], [⟨.ints .u8 l, false⟩] => u32Ok n && lenOk l
  | _, _ => false
noncomputable def SR2Groups : List V → List Obj → Tree := fun xs obs => match xs, obs with
  | [.cl (.int .u32 n)], [] => .leaf (.ret [.ref 0 0 ((oidGroups n).length) true 1] [some ⟨.ints .u8 (oidGroups n), false⟩])
  | _, _ => .fail
noncomputable def preR2Groups : List V → List Obj → Bool := fun xs obs => match xs, obs with
  | [.cl (.int .u32 n)], [] => u32Ok n
  | _, _ => false
noncomputable def SOBytes : List V → List Obj → Tree := fun xs obs => match xs, obs with
  | [.cl (.sli .u32 o)], [] => .leaf (.ret [.cl (.sli .u8 (oidBytes o))] [])
  | _, _ => .fail
noncomputable def preOBytes : List V → List Obj → Bool := fun xs obs => match xs, obs with
  | [.cl (.sli .u32 o)], [] => u32sOk o
  | _, _ => false
noncomputable def SR2Bytes : List V → List Obj → Tree := fun xs obs => match xs, obs with
  | [.cl (.sli .u32 o)], [] => .leaf (.ret [.cl (.sli .u8 (oidBytes o))] [])
  | _, _ => .fail
noncomputable def preR2Bytes : List V → List Obj → Bool := fun xs obs => match xs, obs with
  | [.cl (.sli .u32 o)], [] => u32sOk o
  | _, _ => false
noncomputable def SXSmall : List V → List Obj → Tree := fun xs obs => match xs, obs with
  | [.cl (.int .i64 n)], [] => .leaf (.ret [.cl (.str (digS n))] [])
  | _, _ => .fail
noncomputable def preXSmall : List V → List Obj → Bool := fun xs obs => match xs, obs with
  | [.cl (.int .i64 n)], [] => smallOk n
  | _, _ => false
noncomputable def SXLen : List V → List Obj → Tree := fun xs obs => match xs, obs with
  | [.cl (.int .u64 n)], [] => .leaf (.ret [.cl (.int .i64 (bitL n))] [])
  | _, _ => .fail
noncomputable def preXLen : List V → List Obj → Bool := fun xs obs => match xs, obs with
  | [.cl (.int .u64 n)], [] => u64Ok n
  | _, _ => false
noncomputable def SXLog : List V → List Obj → Tree := fun xs obs => match xs, obs with
  | [.cl (.int .i64 n)], [] => .leaf (.ret [.cl (.int .i64 (logL n))] [])
  | _, _ => .fail
noncomputable def preXLog : List V → List Obj → Bool := fun xs obs => match xs, obs with
  | [.cl (.int .i64 n)], [] => le64 n
  | _, _ => false
noncomputable def SXBool2 : List V → List Obj → Tree := fun xs obs => match xs, obs with
  | [.cl (.bool b)], [] => .leaf (.ret [.cl (.int .i64 (boolI b))] [])
  | _, _ => .fail
noncomputable def preXBool2 : List V → List Obj → Bool := fun xs obs => match xs, obs with
  | [.cl (.bool b)], [] => true
  | _, _ => false
noncomputable def SXDigits : List V → List Obj → Tree := fun xs obs => match xs, obs with
  | [.cl (.int .u64 n)], [] => .leaf (.ret [.cl (.int .i64 (digN n))] [])
  | _, _ => .fail
noncomputable def preXDigits : List V → List Obj → Bool := fun xs obs => match xs, obs with
  | [.cl (.int .u64 n)], [] => u64Pos n
  | _, _ => false
noncomputable def SXBase10 : List V → List Obj → Tree := fun xs obs => match xs, obs with
  | [.ref 0 0 m false 1, .cl (.int .u64 n)], [⟨.arri 24 .u8 l, false⟩] => .leaf (.ret [] [some ⟨.arri 24 .u8 (digL n ++ l.drop m), false⟩])
  | _, _ => .fail
noncomputable def preXBase10 : List V → List Obj → Bool := fun xs obs => match xs, obs with
  | [.ref 0 0 m false 1, .cl (.int .u64 n)], [⟨.arri 24 .u8 l, false⟩] => fmtOk m n l
  | _, _ => false
noncomputable def SXFormat : List V → List Obj → Tree := fun xs obs => match xs, obs with
  | [.cl (.int .u64 n), .cl (.int .i64 10)], [] => .leaf (.ret [.cl (.str (digS n))] [])
  | _, _ => .fail
noncomputable def preXFormat : List V → List Obj → Bool := fun xs obs => match xs, obs with
  | [.cl (.int .u64 n), .cl (.int .i64 10)], [] => u32Ok n
  | _, _ => false
noncomputable def SSFormat : List V → List Obj → Tree := fun xs obs => match xs, obs with
  | [.cl (.int .u64 n), .cl (.int .i64 10)], [] => .leaf (.ret [.cl (.str (digS n))] [])
  | _, _ => .fail
noncomputable def preSFormat : List V → List Obj → Bool := fun xs obs => match xs, obs with
  | [.cl (.int .u64 n), .cl (.int .i64 10)], [] => u32Ok n
  | _, _ => false
noncomputable def SR2Digits : List V → List Obj → Tree := fun xs obs => match xs, obs with
  | [.cl (.int .u64 n)], [] => .leaf (.ret [.cl (.str (digS n))] [])
  | _, _ => .fail
noncomputable def preR2Digits : List V → List Obj → Bool := fun xs obs => match xs, obs with
  | [.cl (.int .u64 n)], [] => u64Ok n
  | _, _ => false
noncomputable def SSJoin : List V → List Obj → Tree := fun xs obs => match xs, obs with
  | [.cl (.slg 1 l), .cl (.str s)], [] => .leaf (.ret [.cl (.str (strJoin l s))] [])
  | _, _ => .fail
noncomputable def preSJoin : List V → List Obj → Bool := fun xs obs => match xs, obs with
  | [.cl (.slg 1 l), .cl (.str s)], [] => strsOk l && dotOk s
  | _, _ => false
noncomputable def SSCount : List V → List Obj → Tree := fun xs obs => match xs, obs with
  | [.cl (.str s), .cl (.str t)], [] => .leaf (.ret [.cl (.int .i64 (dotCount s))] [])
  | _, _ => .fail
noncomputable def preSCount : List V → List Obj → Bool := fun xs obs => match xs, obs with
  | [.cl (.str s), .cl (.str t)], [] => dotOk t
  | _, _ => false
noncomputable def SSSplit : List V → List Obj → Tree := fun xs obs => match xs, obs with
  | [.cl (.str s), .cl (.str t)], [] => .leaf (.ret [.cl (.slg 1 (dotSplit s))] [])
  | _, _ => .fail
noncomputable def preSSplit : List V → List Obj → Bool := fun xs obs => match xs, obs with
  | [.cl (.str s), .cl (.str t)], [] => dotOk t && sizeOk s
  | _, _ => false
noncomputable def SSParse : List V → List Obj → Tree := fun xs obs => match xs, obs with
  | [.cl (.str s), .cl (.int .i64 10), .cl (.int .i64 32)], [] => .ite (!(puOk s)) (.leaf (.ret [.cl (.int .u64 (puVal s)), .cl (.iface 80 (.any 2))] [])) (.leaf (.ret [.cl (.int .u64 (puVal s)), .cl (.nili)] []))
  | _, _ => .fail
noncomputable def preSParse : List V → List Obj → Bool := fun xs obs => match xs, obs with
  | [.cl (.str s), .cl (.int .i64 10), .cl (.int .i64 32)], [] => sizeOk s
  | _, _ => false
noncomputable def SOText : List V → List Obj → Tree := fun xs obs => match xs, obs with
  | [.cl (.sli .u32 o)], [] => .leaf (.ret [.cl (.str (oidText o))] [])
  | _, _ => .fail
noncomputable def preOText : List V → List Obj → Bool := fun xs obs => match xs, obs with
  | [.cl (.sli .u32 o)], [] => u32sOk o
  | _, _ => false
noncomputable def SR2Text : List V → List Obj → Tree := fun xs obs => match xs, obs with
  | [.cl (.sli .u32 o)], [] => .leaf (.ret [.cl (.str (oidText o))] [])
  | _, _ => .fail
noncomputable def preR2Text : List V → List Obj → Bool := fun xs obs => match xs, obs with
  | [.cl (.sli .u32 o)], [] => u32sOk o
  | _, _ => false
noncomputable def SR2Number : List V → List Obj → Tree := fun xs obs => match xs, obs with
  | [.cl (.str s), .cl (.int .u64 n)], [] => .leaf (.ret [.cl (.int .u64 ((refNum s n).1)), .cl (.bool ((refNum s n).2))] [])
  | _, _ => .fail
noncomputable def preR2Number : List V → List Obj → Bool := fun xs obs => match xs, obs with
  | [.cl (.str s), .cl (.int .u64 n)], [] => sizeOk s && u32Ok n
  | _, _ => false
noncomputable def SORead : List V → List Obj → Tree := fun xs obs => match xs, obs with
  | [.cl (.str s)], [] => .leaf (.ret [.cl (.sli .u32 ((oidRead s).1)), .cl (.int .i64 ((oidRead s).2))] [])
  | _, _ => .fail
noncomputable def preORead : List V → List Obj → Bool := fun xs obs => match xs, obs with
  | [.cl (.str s)], [] => sizeOk s
  | _, _ => false
noncomputable def SR2Read : List V → List Obj → Tree := fun xs obs => match xs, obs with
  | [.cl (.str s)], [] => .leaf (.ret [.cl (.sli .u32 ((oidRead s).1)), .cl (.int .i64 ((oidRead s).2))] [])
  | _, _ => .fail
noncomputable def preR2Read : List V → List Obj → Bool := fun xs obs => match xs, obs with
  | [.cl (.str s)], [] => sizeOk s
  | _, _ => false
noncomputable def SLAwake : List V → List Obj → Tree := fun xs obs => match xs, obs with
  | [], [] => .leaf (.ret [.cl (.bool true)] [])
  | _, _ => .fail
noncomputable def preLAwake : List V → List Obj → Bool := fun xs obs => match xs, obs with
  | [], [] => true
  | _, _ => false
noncomputable def SLTells : List V → List Obj → Tree := fun xs obs => match xs, obs with
  | [.cl (.sli .u32 o), .cl (.sli .u8 b)], [] => .leaf (.ret [.cl (.bool true)] [])
  | _, _ => .fail
noncomputable def preLTells : List V → List Obj → Bool := fun xs obs => match xs, obs with
  | [.cl (.sli .u32 o), .cl (.sli .u8 b)], [] => u32All o && bytesAll b
  | _, _ => false
noncomputable def SLTexts : List V → List Obj → Tree := fun xs obs => match xs, obs with
  | [.cl (.sli .u32 o), .cl (.sli .u32 p), .cl (.str s)], [] => .leaf (.ret [.cl (.bool true)] [])
  | _, _ => .fail
noncomputable def preLTexts : List V → List Obj → Bool := fun xs obs => match xs, obs with
  | [.cl (.sli .u32 o), .cl (.sli .u32 p), .cl (.str s)], [] => u32All o && u32All p
  | _, _ => false
noncomputable def SLBack : List V → List Obj → Tree := fun xs obs => match xs, obs with
  | [.cl (.sli .u32 o), .cl (.sli .u8 b), .cl (.str s)], [] => .leaf (.ret [.cl (.bool true)] [])
  | _, _ => .fail
noncomputable def preLBack : List V → List Obj → Bool := fun xs obs => match xs, obs with
  | [.cl (.sli .u32 o), .cl (.sli .u8 b), .cl (.str s)], [] => u32All o && bytesAll b
  | _, _ => false
noncomputable def SLUnlike : List V → List Obj → Tree := fun xs obs => match xs, obs with
  | [.cl (.sli .u32 o), .cl (.sli .u32 p)], [] => .leaf (.ret [.cl (.bool true)] [])
  | _, _ => .fail
noncomputable def preLUnlike : List V → List Obj → Bool := fun xs obs => match xs, obs with
  | [.cl (.sli .u32 o), .cl (.sli .u32 p)], [] => u32All o && u32All p
  | _, _ => false
noncomputable def QONums : List V → List Obj → Option (List (List CV)) := fun xs obs => match xs, obs with
  | [.ptr 0 0 0], [⟨.var [.cl (.sli .u8 b)], false⟩] => some (oidRows (oidNums b))
  | _, _ => none
noncomputable def preONums : List V → List Obj → Bool := fun xs obs => match xs, obs with
  | [.ptr 0 0 0], [⟨.var [.cl (.sli .u8 b)], false⟩] => bytesOk b
  | _, _ => false
def okONums : List CV → Bool := fun x => match x with
  | [.int .u32 _, .bool _] => true
  | _ => false
theorem okONums_of {x : List CV} (h : okONums x = true) : ∃ e1 e2, x = [.int .u32 e1, .bool e2] := by
  unfold okONums at h
  split at h
  · exact ⟨_, _, rfl⟩
  · cases h
end Go.Proofs.YtgkedgpgfmibhaaDoorA
