/-
 Times as plain functions: what the stamp layer computes. Conditions: none.
-/
import Derived.Test.YtfkpjbbkdkcdcaaDoorK3
import Derived.Lib.ItoaMem
import Derived.Lib.ParseIntB
import Derived.Lib.Split
import Derived.Lib.CountLaws
import Derived.Lib.IndexBytes
import Derived.Lib.Join
import Derived.Lib.LaidTab
import Derived.Test.YtfkpjbbkdkcdcaaDoorProg
set_option linter.unusedVariables false
namespace Go.Proofs.YtfkpjbbkdkcdcaaDoorA

def stOk (y : Int) : Bool := decide (1 <= y /\ y <= 20000)
def stLeap (y : Int) : Bool := decide (y % 4 = 0 /\ (y % 100 ≠ 0 \/ y % 400 = 0))
def stDays (y m : Int) : Int := if m = 2 then (if stLeap y = true then 29 else 28) else if m = 4 \/ m = 6 \/ m = 9 \/ m = 11 then 30 else 31
def stFit (y m d h i s : Int) : Bool := decide ((1 <= y /\ y <= 9999 /\ 1 <= m /\ m <= 12) /\ (1 <= d /\ d <= stDays y m) /\ 0 <= h /\ h < 24 /\ 0 <= i /\ i < 60 /\ 0 <= s /\ s < 60)
def stMonth (y m : Int) : Int := if 1 <= y /\ y <= 9999 /\ 1 <= m /\ m <= 12 then stDays y m else 0
def stYears (y : Int) : Int := (y - 1) * 365 + (y - 1) / 4 - (y - 1) / 100 + (y - 1) / 400
/-- the days ahead of a month in its year -/
def stAhead (y m : Int) : Int := if m <= 2 then 31 * (m - 1) else (153 * (m - 3) + 2) / 5 + 59 + (if stLeap y = true then 1 else 0)
def stSecs (y m d h i s : Int) : Int := -62135596800 + (stYears y + stAhead y m + (d - 1)) * 86400 + (h * 3600 + i * 60 + s)
def stI64 (t : Int) : Bool := decide (-9223372036854775808 <= t /\ t <= 9223372036854775807)
def stDig (a b : Int) : Int := if a < 48 \/ 57 < a \/ b < 48 \/ 57 < b then -100000 else 10 * (a - 48) + (b - 48)
def stDigits (s : ByteArray) : Int := stDig (bget s 0) (bget s 1)
def stNum : List Int -> Int -> Int
 | [], n => n
 | c :: r, n => if c < 48 \/ 57 < c then -1 else stNum r (n * 10 + (c - 48))
def stNumber (s : ByteArray) : Int := stNum (bytesOf s) 0
def stRead (s : ByteArray) : Int × Int :=
 if s.size = 15 /\ bget s 14 = 90 then
  let y := stDig (bget s 2) (bget s 3) + 100 * stDig (bget s 0) (bget s 1)
  let m := stDig (bget s 4) (bget s 5)
  let d := stDig (bget s 6) (bget s 7)
  let h := stDig (bget s 8) (bget s 9)
  let i := stDig (bget s 10) (bget s 11)
  let c := stDig (bget s 12) (bget s 13)
  if stFit y m d h i c = true then (stSecs y m d h i c, 0) else (0, 1)
 else (0, 1)

end Go.Proofs.YtfkpjbbkdkcdcaaDoorA

namespace Go.Proofs.YtfkpjbbkdkcdcaaDoorA

abbrev LI := List Int
abbrev LC := List CV
abbrev OO := Option Out
abbrev KT := Ex -> St -> Option Out
abbrev qI (y : Int) : V := .cl (.int .i64 y)
abbrev qU (y : Int) : V := .cl (.int .u8 y)
abbrev qW (y : Int) : V := .cl (.int .u64 y)
abbrev qD (y : Int) : V := .cl (.int .u32 y)
abbrev qB (b : Bool) : V := .cl (.bool b)
abbrev qS (y : List Int) : V := .cl (.sli .u8 y)
abbrev qG (n : Nat) (y : List CV) : V := .cl (.slg n y)
/-! ### bytes -/
def byteB (x : Int) : Bool := decide (0 <= x /\ x <= 255)
noncomputable def bytesOk (b : List Int) : Bool := shut (decide (b.length <= 1000000) && b.all byteB)
noncomputable def bytesAll (b : List Int) : Bool := shut (b.all byteB)
noncomputable def lenOk (b : List Int) : Bool := shut (decide (b.length <= 100000000))
noncomputable def u32Ok (n : Int) : Bool := shut (decide (0 <= n /\ n <= 4294967295))
noncomputable def deepOk (n : Int) : Bool := shut (decide (0 <= n /\ n <= 1000))
def listSameC (a b : List Int) : Bool := decide (a = b)
noncomputable def listSame (a b : List Int) : Bool := shut (listSameC a b)
def listCmpC : List Int -> List Int -> Int
 | [], [] => 0
 | [], _ :: _ => -1
 | _ :: _, [] => 1
 | x :: a, y :: b => if x < y then -1 else if y < x then 1 else listCmpC a b
noncomputable def listCmp (a b : List Int) : Int := shut (listCmpC a b)
noncomputable def listLess (a b : List Int) : Bool := shut (decide (listCmpC a b < 0))
def bytesNumC (b : List Int) : Int := b.foldl (fun n x => n * 256 + x) 0
noncomputable def bytesNum (b : List Int) : Int := shut (bytesNumC b)

/-! ### tags, numbers, bits -/
def derBoxedC (tag : Int) : Bool := decide (tag = 48 \/ tag = 49 \/ (160 <= tag /\ tag <= 190))
noncomputable def derBoxed (tag : Int) : Bool := shut (derBoxedC tag)
def derKnownC (tag : Int) : Bool := decide (tag = 1 \/ tag = 2 \/ tag = 3 \/ tag = 4 \/ tag = 5 \/ tag = 6 \/ tag = 12 \/ tag = 24) || (derBoxedC tag || decide (128 <= tag /\ tag <= 158))
noncomputable def derKnown (tag : Int) : Bool := shut (derKnownC tag)
def derLenSizeC (n : Int) : Int := if n < 128 then 1 else if n < 256 then 2 else if n < 65536 then 3 else 4
noncomputable def derLenSize (n : Int) : Int := shut (derLenSizeC n)
def derNumberC : List Int -> Bool
 | [] => false
 | [_] => true
 | x :: y :: _ => !(decide (x = 0 /\ y < 128)) && !(decide (x = 255 /\ 128 <= y))
noncomputable def derNumber (b : List Int) : Bool := shut (derNumberC b)
def derStripC : List Int -> Bool
 | [] => false
 | [x] => decide (x = 0)
 | x :: y :: r => decide (x <= 7) && decide ((y :: r).getLast (by simp) % 2 ^ x.toNat = 0)
noncomputable def derStrip (b : List Int) : Bool := shut (derStripC b)

/-! ### characters -/
def u8At (l : List Int) (k : Nat) : Bool := match l[k]? with | some x => decide (128 <= x /\ x < 192) | none => false
noncomputable def u8Cont (b : List Int) (i : Int) : Bool := shut (u8At b i.toNat)
def u8RuneC : List Int -> Int
 | [] => 0
 | c :: r =>
  if c < 128 then 1
  else if 194 <= c /\ c <= 223 /\ u8At r 0 = true then 2
  else if 224 <= c /\ c <= 239 /\ u8At r 0 = true /\ u8At r 1 = true /\ (c = 224 -> 160 <= r.headD 0) /\ (c = 237 -> r.headD 0 < 160) then 3
  else if 240 <= c /\ c <= 244 /\ u8At r 0 = true /\ u8At r 1 = true /\ u8At r 2 = true /\ (c = 240 -> 144 <= r.headD 0) /\ (c = 244 -> r.headD 0 < 144) then 4
  else 0
noncomputable def u8Rune (b : List Int) (i : Int) : Int := shut (u8RuneC (b.drop i.toNat))
def u8ValidF : Nat -> List Int -> Bool
 | 0, _ => true
 | n + 1, l => if l = [] then true else if u8RuneC l = 0 then false else u8ValidF n (l.drop (u8RuneC l).toNat)
def u8ValidC (l : List Int) : Bool := u8ValidF l.length l
noncomputable def u8Valid (b : List Int) : Bool := shut (u8ValidC b)
def u8WordC (l : List Int) : Int :=
 ((l.getD 0 0).toNat ||| (l.getD 1 0).toNat * 2 ^ 8 ||| (l.getD 2 0).toNat * 2 ^ 16 ||| (l.getD 3 0).toNat * 2 ^ 24 ||| (l.getD 4 0).toNat * 2 ^ 32 ||| (l.getD 5 0).toNat * 2 ^ 40 ||| (l.getD 6 0).toNat * 2 ^ 48 ||| (l.getD 7 0).toNat * 2 ^ 56 : Nat)
noncomputable def u8Word (b : List Int) : Int := shut (u8WordC b)
def u8FirstC : List Int := List.replicate 128 240 ++ List.replicate 66 241 ++ List.replicate 30 2 ++ [19] ++ List.replicate 12 3 ++ [35] ++ List.replicate 2 3 ++ [52] ++ List.replicate 3 4 ++ [68] ++ List.replicate 11 241
def u8AcceptC : List CV := ([(128, 191), (160, 191), (128, 159), (144, 191), (128, 143)] ++ List.replicate 11 (0, 0) : List (Int × Int)).map fun p => .agg [.int .u8 p.1, .int .u8 p.2]
noncomputable def u8First : List Int := shut u8FirstC
noncomputable def u8Accept : List CV := shut u8AcceptC
/-! ### identifiers -/
def oidFitC : List Int -> Bool
 | x :: y :: r => decide (r.length <= 18) && (decide (x < 2 /\ y < 40) || decide (x = 2 /\ y <= 4294967215))
 | _ => false
noncomputable def oidFit (o : List Int) : Bool := shut (oidFitC o)
def oidFirstC (n : Int) : List Int := if n < 80 then [n / 40, n % 40] else [2, n - 80]
noncomputable def oidFirst (n : Int) : List Int := shut (oidFirstC n)
/-- the number that bytes begin with, and how many bytes it has -/
def oidNumG : Int -> Int -> List Int -> Int × Int
 | _, _, [] => (0, 0)
 | n, i, c :: r => if (i = 0 /\ c = 128) \/ 33554431 < n then (0, 0) else if c < 128 then (n * 128 + c, i + 1) else oidNumG (n * 128 + (c - 128)) (i + 1) r
def oidNumberC (b : List Int) : Int × Int := oidNumG 0 0 b
noncomputable def oidNumber (b : List Int) : Int × Int := shut (oidNumberC b)
def oidNumsF : Nat -> List Int -> List (Int × Bool)
 | 0, _ => []
 | n + 1, b => if b = [] then [] else if (oidNumberC b).2 = 0 then [((oidNumberC b).1, false)] else ((oidNumberC b).1, true) :: oidNumsF n (b.drop (oidNumberC b).2.toNat)
def oidNumsC (b : List Int) : List (Int × Bool) := oidNumsF b.length b
noncomputable def oidNums (b : List Int) : List (Int × Bool) := shut (oidNumsC b)
noncomputable def oidRows (l : List (Int × Bool)) : List (List CV) := shut (l.map fun p => [.int .u32 p.1, .bool p.2])
def oidGo : List (Int × Bool) -> List Int -> Option (List Int)
 | [], o => some o
 | (n, ok) :: r, o => if ok = false \/ 20 < o.length then none else if o = [] then oidGo r (oidFirstC n) else oidGo r (o ++ [n])
def oidParseC (b : List Int) : List Int × Int := match oidGo (oidNumsC b) [] with
 | some o => if oidFitC o = true then (o, 0) else ([], 5)
 | none => ([], 5)
noncomputable def oidParse (b : List Int) : List Int × Int := shut (oidParseC b)

/-! ### values -/
def derFitsC (tag : Int) (b : List Int) : Bool :=
 if tag = 1 then decide (b = [0] \/ b = [255])
 else if tag = 2 then derNumberC b
 else if tag = 3 then derStripC b
 else if tag = 5 then decide (b = [])
 else if tag = 6 then decide ((oidParseC b).2 = 0)
 else if tag = 12 then u8ValidC b
 else if tag = 24 then decide ((stRead (strOf b)).2 = 0)
 else true
noncomputable def derFits (tag : Int) (b : List Int) : Bool := shut (derFitsC tag b)
def rowsSortedC : List (List Int) -> Bool
 | a :: b :: r => decide (listCmpC a b <= 0) && rowsSortedC (b :: r)
 | _ => true
def rowB (l : List Int) : Bool := decide (l.length <= 1000000) && l.all byteB
def rowCV : CV -> Bool
 | .sli .u8 l => rowB l
 | _ => false
noncomputable def rowsOk (l : List CV) : Bool := shut (decide (l.length <= 1000000) && l.all rowCV)
noncomputable def rowsSorted (l : List CV) : Bool := shut (rowsSortedC (l.map cvSli))
noncomputable def rowsJoin (l : List CV) : List Int := shut (l.flatMap cvSli)
/-! ### are two the same? -/
def isNf : Nat -> List CV -> Bool
 | 0, _ => false
 | n + 1, [.int .i64 _, .sli .u8 b, .slg 3 l] => decide (b.length <= 100000000) && (decide (l.length <= 100000000) && l.all fun c => match c with | .agg x => isNf n x | _ => false)
 | _ + 1, _ => false
noncomputable def isNr (n : Nat) (l : List CV) : Bool := shut (isNf n l)
noncomputable def isN (l : List CV) : Bool := shut (@decide (∃ n, isNf n l = true) (Classical.propDecidable _))
noncomputable def ndSame (a b : List CV) : Bool := shut (@decide (a = b) (Classical.propDecidable _))
end Go.Proofs.YtfkpjbbkdkcdcaaDoorA

namespace Go.Proofs.YtfkpjbbkdkcdcaaDoorA

noncomputable def growOk (n : Int) : Bool := shut (decide (0 <= n /\ n <= 100000000))
noncomputable def noInts : List Int := shut []
noncomputable def leftOk (n : Int) : Bool := shut (decide (0 <= n /\ n <= 30000))
def derHeadC (tag n : Int) : List Int := tag :: (if n < 128 then [n] else if n < 256 then [129, n] else if n < 65536 then [130, n / 256, n % 256] else [131, n / 65536, n / 256 % 256, n % 256])
noncomputable def derHead (tag n : Int) : List Int := shut (derHeadC tag n)
noncomputable def headOk (tag n : Int) : Bool := shut (decide ((0 <= tag /\ tag <= 255) /\ 0 <= n /\ n < 16777216))
noncomputable def joinOk (l : List CV) : Bool := shut (decide (l.length <= 1000000) && (l.all rowCV && decide ((l.flatMap cvSli).length <= 1000000)))

/-! ### a value's places, by its rank -/
/-- a value of any size -/
def isTf : Nat -> List CV -> Bool
 | 0, _ => false
 | n + 1, [.int .i64 _, .sli .u8 b, .slg 3 l] => b.all byteB && l.all fun c => match c with | .agg x => isTf n x | _ => false
 | _ + 1, _ => false
noncomputable def isTr (n : Nat) (a : List CV) : Bool := shut (isTf n a)
noncomputable def isT (a : List CV) : Bool := shut (@decide (∃ n, isTf n a = true) (Classical.propDecidable _))
def kidsOf (f : List CV -> Int -> Int) : List CV -> Int -> Int
 | [], x => x
 | c :: r, x => if x < 0 then x else kidsOf f r (f (cell1 c) x)
def smallF : Nat -> List CV -> Int -> Int
 | n + 1, [.int .i64 _, .sli .u8 b, .slg 3 l], x => kidsOf (smallF n) l (x - 1 - min (b.length : Int) 1048576)
 | _, _, x => x
/-- how much there is -/
def bulkF : Nat -> List CV -> Nat
 | n + 1, [.int .i64 _, .sli .u8 b, .slg 3 l] => 1 + b.length + (l.map fun c => bulkF n (cell1 c)).sum
 | _, _ => 0
/-- can it be? -/
def okF : Nat -> Nat -> List CV -> Bool
 | n + 1, d + 1, [.int .i64 t, .sli .u8 b, .slg 3 l] => derKnownC t && (if derBoxedC t = true then decide (b = []) && l.all fun c => okF n d (cell1 c) else decide (l = []) && derFitsC t b)
 | _, _, _ => false
/-- its bytes, and whether the sets in it are in order -/
def bytesF : Nat -> List CV -> List Int × Bool
 | n + 1, [.int .i64 t, .sli .u8 b, .slg 3 l] =>
  if derBoxedC t = true then
   let ks := l.map fun c => bytesF n (cell1 c)
   let bs := ks.map (·.1)
   (derHeadC t bs.flatten.length ++ bs.flatten, ks.all (·.2) && (!(decide (t = 49)) || rowsSortedC bs))
  else (derHeadC t b.length ++ b, true)
 | _, _ => ([], false)
noncomputable def rkOf (a : List CV) : Nat := @dite _ (∃ n, isTf n a = true) (Classical.propDecidable _) (fun h => Classical.choose h) (fun _ => 0)
noncomputable def ndSmall (a : List CV) (left : Int) : Int := shut (smallF (rkOf a) a left)
noncomputable def ndSize (a : List CV) (deep : Int) : Int := shut (if okF (rkOf a) deep.toNat a = true then ((bytesF (rkOf a) a).1.length : Int) else -1)
noncomputable def isSr (n : Nat) (a : List CV) : Bool := shut (isTf n a && (decide (bulkF n a <= 30000)))
noncomputable def isS (a : List CV) : Bool := shut (@decide (∃ n, isTf n a = true /\ bulkF n a <= 30000) (Classical.propDecidable _))
noncomputable def isWr (n : Nat) (a : List CV) : Bool := shut (@decide (isTf n a = true /\ bulkF n a <= 30000 /\ ∃ d, okF n d a = true) (Classical.propDecidable _))
noncomputable def isW (a : List CV) : Bool := shut (@decide (∃ n, isTf n a = true /\ bulkF n a <= 30000 /\ ∃ d, okF n d a = true) (Classical.propDecidable _))
noncomputable def ndWrite (a : List CV) : List Int × Bool := shut (if (bytesF (rkOf a) a).2 = true then ((bytesF (rkOf a) a).1, true) else ([], false))
noncomputable def ndWriteR (a : List CV) (deep : Int) : List Int × Bool := shut (if okF (rkOf a) deep.toNat a = true /\ (bytesF (rkOf a) a).2 = true then ((bytesF (rkOf a) a).1, true) else ([], false))
noncomputable def ndBytes (a : List CV) : List Int × Int := shut (if okF (rkOf a) 32 a = true /\ (bytesF (rkOf a) a).2 = true then ((bytesF (rkOf a) a).1, 0) else ([], 1))
noncomputable def ndFit (a : List CV) : Bool := shut (decide (okF (rkOf a) 32 a = true /\ (bytesF (rkOf a) a).2 = true))
end Go.Proofs.YtfkpjbbkdkcdcaaDoorA

namespace Go.Proofs.YtfkpjbbkdkcdcaaDoorA

def u32B (n : Int) : Bool := decide (0 <= n /\ n <= 4294967295)
noncomputable def u32sOk (o : List Int) : Bool := shut (decide (o.length <= 1000) && o.all u32B)
noncomputable def u64Ok (n : Int) : Bool := shut (decide (0 <= n /\ n <= 18446744073709551615))
/-! ### bytes -/
def gHi : Nat -> Int -> List Int
 | 0, _ => []
 | f + 1, n => if n = 0 then [] else gHi f (n / 128) ++ [128 + n % 128]
def oidGroupsC (n : Int) : List Int := gHi 5 (n / 128) ++ [n % 128]
noncomputable def oidGroups (n : Int) : List Int := shut (oidGroupsC n)
def oidBytesC (o : List Int) : List Int := if oidFitC o = true then (match o with | x :: y :: r => oidGroupsC (40 * x + y) ++ r.flatMap oidGroupsC | _ => []) else []
noncomputable def oidBytes (o : List Int) : List Int := shut (oidBytesC o)

/-! ### texts -/
end Go.Proofs.YtfkpjbbkdkcdcaaDoorA

namespace Go.Proofs.YtfkpjbbkdkcdcaaDoorA
noncomputable def noKids : List CV := shut []
noncomputable def num8 (b : List Int) : Bool := shut (decide (b.length <= 8) && b.all byteB)
def vLeC (n : Int) : List Int := [n % 256, n / 256 % 256, n / 65536 % 256, n / 16777216 % 256, n / 4294967296 % 256, n / 1099511627776 % 256, n / 281474976710656 % 256, n / 72057594037927936 % 256]
noncomputable def vLe (n : Int) : List Int := shut (vLeC n)
noncomputable def vBe (n : Int) : List Int := shut (vLeC n).reverse
noncomputable def vRev (l : List Int) : List Int := shut l.reverse
noncomputable def revOk (l : List Int) : Bool := shut (decide (l.length = 8))
/-- a number's bytes without those that say nothing -/
def trimF : List Int -> List Int
 | a :: b :: r => if (a = 0 /\ b < 128) \/ (a = 255 /\ 128 <= b) then trimF (b :: r) else a :: b :: r
 | l => l
def vIntC (n : Int) : List Int := trimF (vLeC (n % 18446744073709551616)).reverse
noncomputable def vInt (n : Int) : List Int := shut (vIntC n)
def twosC (b : List Int) : Int := if 128 <= b.headD 0 then bytesNumC b - 256 ^ b.length else bytesNumC b
def vNumberC (b : List Int) : Int × Int := if 8 < b.length then (0, 8) else (twosC b, 0)
noncomputable def vNumber (b : List Int) : Int × Int := shut (vNumberC b)
/-- what is wrong with a value of no parts, of a tag -/
def vErrC (g t : Int) (b : List Int) (k : List CV) : Int := if t ≠ g then 4 else if k.length ≠ 0 \/ derFitsC g b = false then 5 else 0
noncomputable def vIntOf (t : Int) (b : List Int) (k : List CV) : Int × Int := shut (if vErrC 2 t b k = 0 then vNumberC b else (0, vErrC 2 t b k))
noncomputable def vTimeOf (t : Int) (b : List Int) (k : List CV) : Int × Int := shut (if vErrC 24 t b k = 0 then stRead (strOf b) else (0, vErrC 24 t b k))
noncomputable def vIdOf (t : Int) (b : List Int) (k : List CV) : List Int × Int := shut (if vErrC 6 t b k = 0 then oidParse b else ([], vErrC 6 t b k))
noncomputable def vBytesOf (t : Int) (b : List Int) (k : List CV) : List Int × Int := shut (if vErrC 4 t b k = 0 then (b, 0) else ([], vErrC 4 t b k))
/-! ### sets -/
/-! ### what is made -/
def vMadeC (g : Int) (b : List Int) : Int × List Int × Int := if derFitsC g b = true then (g, b, 0) else (0, [], 5)
noncomputable def vMade (g : Int) (b : List Int) : Int × List Int × Int := shut (vMadeC g b)
noncomputable def madeOk (g : Int) (b : List Int) : Bool := shut (decide ((g = 12 \/ g = 6 \/ g = 24) /\ b.length <= 2000) && b.all byteB)
noncomputable def idOk (o : List Int) : Bool := shut (decide (o.length <= 50) && o.all u32B)
def vKidsC (g t : Int) (b : List Int) (k : List CV) : List CV × Int := if t ≠ g \/ derBoxedC g = false then ([], 4) else if b.length ≠ 0 then ([], 5) else (k, 0)
noncomputable def vKids (g t : Int) (b : List Int) (k : List CV) : List CV × Int := shut (vKidsC g t b k)
noncomputable def lenOkC (l : List CV) : Bool := shut (decide (l.length <= 100000000))
end Go.Proofs.YtfkpjbbkdkcdcaaDoorA

namespace Go.Proofs.YtfkpjbbkdkcdcaaDoorA
def algRowsV : CV := .agga 11 6 [.agg [.int .i64 1, .int .i64 3, .int .i64 1, .int .i64 0, .int .i64 1, .int .i64 1], .agg [.int .i64 4, .int .i64 2, .int .i64 1, .int .i64 0, .int .i64 8, .int .i64 2], .agg [.int .i64 6, .int .i64 2, .int .i64 1, .int .i64 0, .int .i64 11, .int .i64 1], .agg [.int .i64 11, .int .i64 3, .int .i64 2, .int .i64 1, .int .i64 17, .int .i64 1], .agg [.int .i64 33, .int .i64 2, .int .i64 2, .int .i64 5, .int .i64 1, .int .i64 1], .agg [.int .i64 41, .int .i64 1, .int .i64 2, .int .i64 4, .int .i64 17, .int .i64 1], .agg [.int .i64 51, .int .i64 3, .int .i64 3, .int .i64 2, .int .i64 1, .int .i64 1], .agg [.int .i64 61, .int .i64 3, .int .i64 4, .int .i64 4, .int .i64 28, .int .i64 1], .agg [.int .i64 71, .int .i64 3, .int .i64 5, .int .i64 3, .int .i64 5, .int .i64 20], .agg [.int .i64 81, .int .i64 3, .int .i64 6, .int .i64 3, .int .i64 2, .int .i64 20], .agg [.int .i64 91, .int .i64 3, .int .i64 7, .int .i64 3, .int .i64 6, .int .i64 20]]
/-- an algorithm, its group, its identifier -/
def algEntsC : List (Int × Int × List Int) := [(1, 1, [2, 16, 840, 1, 101, 3, 4, 2, 1]),
 (2, 1, [2, 16, 840, 1, 101, 3, 4, 2, 2]),
 (3, 1, [2, 16, 840, 1, 101, 3, 4, 2, 3]),
 (4, 1, [2, 16, 840, 1, 101, 3, 4, 2, 8]),
 (5, 1, [2, 16, 840, 1, 101, 3, 4, 2, 10]),
 (6, 1, [2, 16, 840, 1, 101, 3, 4, 2, 11]),
 (7, 1, [2, 16, 840, 1, 101, 3, 4, 2, 12]),
 (11, 2, [2, 16, 840, 1, 101, 3, 4, 3, 17]),
 (12, 2, [2, 16, 840, 1, 101, 3, 4, 3, 18]),
 (13, 2, [2, 16, 840, 1, 101, 3, 4, 3, 19]),
 (33, 2, [2, 999, 1]),
 (34, 2, [2, 999, 2]),
 (41, 2, [1, 2, 840, 113549, 1, 9, 16, 3, 17]),
 (51, 3, [2, 16, 840, 1, 101, 3, 4, 4, 1]),
 (52, 3, [2, 16, 840, 1, 101, 3, 4, 4, 2]),
 (53, 3, [2, 16, 840, 1, 101, 3, 4, 4, 3]),
 (61, 4, [1, 2, 840, 113549, 1, 9, 16, 3, 28]),
 (62, 4, [1, 2, 840, 113549, 1, 9, 16, 3, 29]),
 (63, 4, [1, 2, 840, 113549, 1, 9, 16, 3, 30]),
 (71, 5, [2, 16, 840, 1, 101, 3, 4, 1, 5]),
 (72, 5, [2, 16, 840, 1, 101, 3, 4, 1, 25]),
 (73, 5, [2, 16, 840, 1, 101, 3, 4, 1, 45]),
 (81, 6, [2, 16, 840, 1, 101, 3, 4, 1, 2]),
 (82, 6, [2, 16, 840, 1, 101, 3, 4, 1, 22]),
 (83, 6, [2, 16, 840, 1, 101, 3, 4, 1, 42]),
 (91, 7, [2, 16, 840, 1, 101, 3, 4, 1, 6]),
 (92, 7, [2, 16, 840, 1, 101, 3, 4, 1, 26]),
 (93, 7, [2, 16, 840, 1, 101, 3, 4, 1, 46]),
 (21, 2, [2, 16, 840, 1, 101, 3, 4, 3, 20]),
 (22, 2, [2, 16, 840, 1, 101, 3, 4, 3, 26]),
 (23, 2, [2, 16, 840, 1, 101, 3, 4, 3, 21]),
 (24, 2, [2, 16, 840, 1, 101, 3, 4, 3, 27]),
 (25, 2, [2, 16, 840, 1, 101, 3, 4, 3, 22]),
 (26, 2, [2, 16, 840, 1, 101, 3, 4, 3, 28]),
 (27, 2, [2, 16, 840, 1, 101, 3, 4, 3, 23]),
 (28, 2, [2, 16, 840, 1, 101, 3, 4, 3, 29]),
 (29, 2, [2, 16, 840, 1, 101, 3, 4, 3, 24]),
 (30, 2, [2, 16, 840, 1, 101, 3, 4, 3, 30]),
 (31, 2, [2, 16, 840, 1, 101, 3, 4, 3, 25]),
 (32, 2, [2, 16, 840, 1, 101, 3, 4, 3, 31])]
noncomputable def algRows : List (List CV) := shut (algEntsC.map fun e => [.agg [.int .i64 e.1, .int .i64 e.2.1, .sli .u32 e.2.2]])
def algFoundC (g : Int) : Int × Int × List Int := (algEntsC.find? fun e => decide (e.1 = g)).getD (0, 0, [])
noncomputable def algFound (g : Int) : Int × Int × List Int := shut (algFoundC g)
def algOfC (o : List Int) : Int := ((algEntsC.find? fun e => decide (e.2.2 = o)).getD (0, 0, [])).1
noncomputable def algOf (o : List Int) : Int := shut (algOfC o)
def algNameC (k : Int) : List Int := if 1 <= k /\ k <= 3 then [1, 2, 840, 113549, 1, 7, k] else if 6 <= k /\ k <= 9 then [1, 2, 840, 113549, 1, 9, k - 3] else if k = 4 then [1, 2, 840, 113549, 1, 9, 16, 1, 23] else if k = 5 then [1, 2, 840, 113549, 1, 9, 16, 1, 4] else if k = 10 then [1, 2, 840, 113549, 1, 9, 16, 13, 3] else []
noncomputable def algName (k : Int) : List Int := shut (algNameC k)
def algUsedC (g : Int) : Int := if g = 6 then 16 else if g = 7 then 12 else 0
noncomputable def algUsed (g : Int) : Int := shut (algUsedC g)
noncomputable def nodeC (t : Int) (b : List Int) (k : List CV) : CV := .agg [.int .i64 t, .sli .u8 b, .slg 3 k]
noncomputable def algIdN (o : List Int) : CV := nodeC (vMade 6 (oidBytes o)).1 (vMade 6 (oidBytes o)).2.1 []
noncomputable def algNodeC (g : Int) (b : List Int) : Int × List CV × Int :=
 if (algFoundC g).2.1 = 0 then (0, [], 9) else if (b.length : Int) ≠ algUsedC (algFoundC g).2.1 then (0, [], 14)
 else (48, algIdN (algFoundC g).2.2 :: (if (algFoundC g).2.1 = 6 then [nodeC 4 b []] else if (algFoundC g).2.1 = 7 then [nodeC 48 [] [nodeC 4 b [], nodeC 2 (vInt 16) []]] else []), 0)
noncomputable def algNode (g : Int) (b : List Int) : Int × List CV × Int := shut (algNodeC g b)
/-! ### what an algorithm's value tells -/
abbrev nT (c : CV) : Int := cvInt ((cell1 c).headD .nili)
abbrev nB (c : CV) : List Int := cvSli ((cell1 c).tail.headD .nili)
abbrev nK (c : CV) : List CV := cvSlg ((cell1 c).tail.tail.headD .nili)
noncomputable def algB (g : Int) (x : CV) : List Int × Bool := ((vBytesOf (nT x) (nB x) (nK x)).1, decide ((vBytesOf (nT x) (nB x) (nK x)).2 = 0) && decide (((vBytesOf (nT x) (nB x) (nK x)).1.length : Int) = algUsedC g))
noncomputable def algG2 (g : Int) (q p : CV) : List Int × Bool := if ¬(vIntOf (nT q) (nB q) (nK q)).2 = 0 then ([], false) else if ¬(vIntOf (nT q) (nB q) (nK q)).1 = 16 then ([], false) else algB g p
noncomputable def algG (g : Int) (two : List CV) : List Int × Bool := if ¬(two.length : Int) = 2 then ([], false) else algG2 g (two.getD 1 .nili) (two.headD .nili)
noncomputable def algH (g : Int) (x : CV) : List Int × Bool := if g = 7 then (if ¬(vKids 48 (nT x) (nB x) (nK x)).2 = 0 then ([], false) else algG g (vKids 48 (nT x) (nB x) (nK x)).1) else algB g x
noncomputable def algTailC (g : Int) (l : List CV) : List Int × Bool :=
 if algUsedC g = 0 then ([], decide ((l.length : Int) = 0)) else if ¬(l.length : Int) = 1 then ([], false) else algH g (l.headD .nili)
noncomputable def algTail (g : Int) (l : List CV) : List Int × Bool := shut (algTailC g l)
noncomputable def tailOk (l : List CV) : Bool := shut (@decide (∀ c ∈ l, ∃ t b k, c = .agg [.int .i64 t, .sli .u8 b, .slg 3 k] /\ isS [.int .i64 t, .sli .u8 b, .slg 3 k] = true) (Classical.propDecidable _))
noncomputable def algR1 (v : List Int × Int) (r : List CV) : Int × List Int × Int := if ¬v.2 = 0 then (0, [], 1) else if algOf v.1 = 0 then (0, [], 9) else if (algTail (algFound (algOf v.1)).2.1 r).2 = false then (0, [], 1) else (algOf v.1, (algTail (algFound (algOf v.1)).2.1 r).1, 0)
noncomputable def algR (ks : List CV) : Int × List Int × Int := if (ks.length : Int) = 0 then (0, [], 1) else algR1 (vIdOf (nT (ks.headD .nili)) (nB (ks.headD .nili)) (nK (ks.headD .nili))) (ks.drop 1)
noncomputable def algReadC (t : Int) (b : List Int) (k : List CV) : Int × List Int × Int := if ¬(vKids 48 t b k).2 = 0 then (0, [], 1) else algR (vKids 48 t b k).1
noncomputable def algRead (t : Int) (b : List Int) (k : List CV) : Int × List Int × Int := shut (algReadC t b k)
end Go.Proofs.YtfkpjbbkdkcdcaaDoorA

set_option linter.unusedSimpArgs false
set_option maxRecDepth 100000
namespace Go.Proofs.YtfkpjbbkdkcdcaaDoorA
noncomputable def glVal : Nat -> Option CV := fun g => cond (Nat.beq g 3) (some (.aggi 256 .u8 u8First)) (cond (Nat.beq g 4) (some (.agga 16 2 u8Accept)) (cond (Nat.beq g 1) (some (algRowsV)) (none)))
noncomputable def SDigits : List V -> List Obj -> Tree := fun xs obs => match xs, obs with
 | [.cl (.str s)], [] => .leaf (.ret [.cl (.int .i64 (stDigits s))] [])
 | _, _ => .fail
noncomputable def preDigits : List V -> List Obj -> Bool := fun xs obs => match xs, obs with
 | [.cl (.str s)], [] => decide (2 <= s.size)
 | _, _ => false
noncomputable def SDLeap : List V -> List Obj -> Tree := fun xs obs => match xs, obs with
 | [.cl (.aggi 6 .i64 [d0, d1, d2, d3, d4, d5])], [] => .leaf (.ret [.cl (.bool (stLeap d0))] [])
 | _, _ => .fail
noncomputable def preDLeap : List V -> List Obj -> Bool := fun xs obs => match xs, obs with
 | [.cl (.aggi 6 .i64 [d0, d1, d2, d3, d4, d5])], [] => stOk d0
 | _, _ => false
noncomputable def SDDays : List V -> List Obj -> Tree := fun xs obs => match xs, obs with
 | [.cl (.aggi 6 .i64 [d0, d1, d2, d3, d4, d5])], [] => .leaf (.ret [.cl (.int .i64 (stDays d0 d1))] [])
 | _, _ => .fail
noncomputable def preDDays : List V -> List Obj -> Bool := fun xs obs => match xs, obs with
 | [.cl (.aggi 6 .i64 [d0, d1, d2, d3, d4, d5])], [] => stOk d0
 | _, _ => false
noncomputable def SDFit : List V -> List Obj -> Tree := fun xs obs => match xs, obs with
 | [.cl (.aggi 6 .i64 [d0, d1, d2, d3, d4, d5])], [] => .leaf (.ret [.cl (.bool (stFit d0 d1 d2 d3 d4 d5))] [])
 | _, _ => .fail
noncomputable def preDFit : List V -> List Obj -> Bool := fun xs obs => match xs, obs with
 | [.cl (.aggi 6 .i64 [d0, d1, d2, d3, d4, d5])], [] => true
 | _, _ => false
noncomputable def SDSecs : List V -> List Obj -> Tree := fun xs obs => match xs, obs with
 | [.cl (.aggi 6 .i64 [d0, d1, d2, d3, d4, d5])], [] => .leaf (.ret [.cl (.int .i64 (stSecs d0 d1 d2 d3 d4 d5))] [])
 | _, _ => .fail
noncomputable def preDSecs : List V -> List Obj -> Bool := fun xs obs => match xs, obs with
 | [.cl (.aggi 6 .i64 [d0, d1, d2, d3, d4, d5])], [] => stFit d0 d1 d2 d3 d4 d5
 | _, _ => false
noncomputable def SSRead : List V -> List Obj -> Tree := fun xs obs => match xs, obs with
 | [.cl (.str s)], [] => .leaf (.ret [.cl (.int .i64 ((stRead s).1)), .cl (.int .i64 ((stRead s).2))] [])
 | _, _ => .fail
noncomputable def preSRead : List V -> List Obj -> Bool := fun xs obs => match xs, obs with
 | [.cl (.str s)], [] => true
 | _, _ => false
noncomputable def SRLeap : List V -> List Obj -> Tree := fun xs obs => match xs, obs with
 | [.cl (.int .i64 y)], [] => .leaf (.ret [.cl (.bool (stLeap y))] [])
 | _, _ => .fail
noncomputable def preRLeap : List V -> List Obj -> Bool := fun xs obs => match xs, obs with
 | [.cl (.int .i64 y)], [] => stOk y
 | _, _ => false
noncomputable def SRDays : List V -> List Obj -> Tree := fun xs obs => match xs, obs with
 | [.cl (.int .i64 y), .cl (.int .i64 m)], [] => .leaf (.ret [.cl (.int .i64 (stMonth y m))] [])
 | _, _ => .fail
noncomputable def preRDays : List V -> List Obj -> Bool := fun xs obs => match xs, obs with
 | [.cl (.int .i64 y), .cl (.int .i64 m)], [] => true
 | _, _ => false
noncomputable def SRYears : List V -> List Obj -> Tree := fun xs obs => match xs, obs with
 | [.cl (.int .i64 y)], [] => .leaf (.ret [.cl (.int .i64 (stYears y))] [])
 | _, _ => .fail
noncomputable def preRYears : List V -> List Obj -> Bool := fun xs obs => match xs, obs with
 | [.cl (.int .i64 y)], [] => stOk y
 | _, _ => false
noncomputable def SRNumber : List V -> List Obj -> Tree := fun xs obs => match xs, obs with
 | [.cl (.str s)], [] => .leaf (.ret [.cl (.int .i64 (stNumber s))] [])
 | _, _ => .fail
noncomputable def preRNumber : List V -> List Obj -> Bool := fun xs obs => match xs, obs with
 | [.cl (.str s)], [] => decide (s.size <= 18)
 | _, _ => false
noncomputable def SRRead : List V -> List Obj -> Tree := fun xs obs => match xs, obs with
 | [.cl (.str s)], [] => .leaf (.ret [.cl (.int .i64 ((stRead s).1)), .cl (.int .i64 ((stRead s).2))] [])
 | _, _ => .fail
noncomputable def preRRead : List V -> List Obj -> Bool := fun xs obs => match xs, obs with
 | [.cl (.str s)], [] => true
 | _, _ => false
noncomputable def SDBoxed : List V -> List Obj -> Tree := fun xs obs => match xs, obs with
 | [.cl (.int .i64 tag)], [] => .leaf (.ret [.cl (.bool (derBoxed tag))] [])
 | _, _ => .fail
noncomputable def preDBoxed : List V -> List Obj -> Bool := fun xs obs => match xs, obs with
 | [.cl (.int .i64 tag)], [] => true
 | _, _ => false
noncomputable def SRBoxed : List V -> List Obj -> Tree := fun xs obs => match xs, obs with
 | [.cl (.int .i64 tag)], [] => .leaf (.ret [.cl (.bool (derBoxed tag))] [])
 | _, _ => .fail
noncomputable def preRBoxed : List V -> List Obj -> Bool := fun xs obs => match xs, obs with
 | [.cl (.int .i64 tag)], [] => true
 | _, _ => false
noncomputable def SDKnown : List V -> List Obj -> Tree := fun xs obs => match xs, obs with
 | [.cl (.int .i64 tag)], [] => .leaf (.ret [.cl (.bool (derKnown tag))] [])
 | _, _ => .fail
noncomputable def preDKnown : List V -> List Obj -> Bool := fun xs obs => match xs, obs with
 | [.cl (.int .i64 tag)], [] => true
 | _, _ => false
noncomputable def SRTagged : List V -> List Obj -> Tree := fun xs obs => match xs, obs with
 | [.cl (.int .i64 tag)], [] => .leaf (.ret [.cl (.bool (derKnown tag))] [])
 | _, _ => .fail
noncomputable def preRTagged : List V -> List Obj -> Bool := fun xs obs => match xs, obs with
 | [.cl (.int .i64 tag)], [] => true
 | _, _ => false
noncomputable def SDLenSize : List V -> List Obj -> Tree := fun xs obs => match xs, obs with
 | [.cl (.int .i64 n)], [] => .leaf (.ret [.cl (.int .i64 (derLenSize n))] [])
 | _, _ => .fail
noncomputable def preDLenSize : List V -> List Obj -> Bool := fun xs obs => match xs, obs with
 | [.cl (.int .i64 n)], [] => true
 | _, _ => false
noncomputable def SDNumber : List V -> List Obj -> Tree := fun xs obs => match xs, obs with
 | [.cl (.sli .u8 b)], [] => .leaf (.ret [.cl (.bool (derNumber b))] [])
 | _, _ => .fail
noncomputable def preDNumber : List V -> List Obj -> Bool := fun xs obs => match xs, obs with
 | [.cl (.sli .u8 b)], [] => bytesOk b
 | _, _ => false
noncomputable def SRFitInt : List V -> List Obj -> Tree := fun xs obs => match xs, obs with
 | [.cl (.sli .u8 b)], [] => .leaf (.ret [.cl (.bool (derNumber b))] [])
 | _, _ => .fail
noncomputable def preRFitInt : List V -> List Obj -> Bool := fun xs obs => match xs, obs with
 | [.cl (.sli .u8 b)], [] => bytesOk b
 | _, _ => false
noncomputable def SDStrip : List V -> List Obj -> Tree := fun xs obs => match xs, obs with
 | [.cl (.sli .u8 b)], [] => .leaf (.ret [.cl (.bool (derStrip b))] [])
 | _, _ => .fail
noncomputable def preDStrip : List V -> List Obj -> Bool := fun xs obs => match xs, obs with
 | [.cl (.sli .u8 b)], [] => bytesOk b
 | _, _ => false
noncomputable def SRFitBits : List V -> List Obj -> Tree := fun xs obs => match xs, obs with
 | [.cl (.sli .u8 b)], [] => .leaf (.ret [.cl (.bool (derStrip b))] [])
 | _, _ => .fail
noncomputable def preRFitBits : List V -> List Obj -> Bool := fun xs obs => match xs, obs with
 | [.cl (.sli .u8 b)], [] => bytesOk b
 | _, _ => false
noncomputable def SRCont : List V -> List Obj -> Tree := fun xs obs => match xs, obs with
 | [.cl (.sli .u8 b), .cl (.int .i64 i)], [] => .leaf (.ret [.cl (.bool (u8Cont b i))] [])
 | _, _ => .fail
noncomputable def preRCont : List V -> List Obj -> Bool := fun xs obs => match xs, obs with
 | [.cl (.sli .u8 b), .cl (.int .i64 i)], [] => decide (0 <= i)
 | _, _ => false
noncomputable def SRRune : List V -> List Obj -> Tree := fun xs obs => match xs, obs with
 | [.cl (.sli .u8 b), .cl (.int .i64 i)], [] => .leaf (.ret [.cl (.int .i64 (u8Rune b i))] [])
 | _, _ => .fail
noncomputable def preRRune : List V -> List Obj -> Bool := fun xs obs => match xs, obs with
 | [.cl (.sli .u8 b), .cl (.int .i64 i)], [] => bytesOk b && decide (0 <= i /\ i < b.length)
 | _, _ => false
noncomputable def SRUtf8 : List V -> List Obj -> Tree := fun xs obs => match xs, obs with
 | [.cl (.sli .u8 b)], [] => .leaf (.ret [.cl (.bool (u8Valid b))] [])
 | _, _ => .fail
noncomputable def preRUtf8 : List V -> List Obj -> Bool := fun xs obs => match xs, obs with
 | [.cl (.sli .u8 b)], [] => bytesOk b
 | _, _ => false
noncomputable def SOFit : List V -> List Obj -> Tree := fun xs obs => match xs, obs with
 | [.cl (.sli .u32 o)], [] => .leaf (.ret [.cl (.bool (oidFit o))] [])
 | _, _ => .fail
noncomputable def preOFit : List V -> List Obj -> Bool := fun xs obs => match xs, obs with
 | [.cl (.sli .u32 o)], [] => true
 | _, _ => false
noncomputable def SR2Fit : List V -> List Obj -> Tree := fun xs obs => match xs, obs with
 | [.cl (.sli .u32 o)], [] => .leaf (.ret [.cl (.bool (oidFit o))] [])
 | _, _ => .fail
noncomputable def preR2Fit : List V -> List Obj -> Bool := fun xs obs => match xs, obs with
 | [.cl (.sli .u32 o)], [] => true
 | _, _ => false
noncomputable def SR2First : List V -> List Obj -> Tree := fun xs obs => match xs, obs with
 | [.cl (.int .u64 n)], [] => .leaf (.ret [.cl (.sli .u32 (oidFirst n))] [])
 | _, _ => .fail
noncomputable def preR2First : List V -> List Obj -> Bool := fun xs obs => match xs, obs with
 | [.cl (.int .u64 n)], [] => u32Ok n
 | _, _ => false
noncomputable def SONumber : List V -> List Obj -> Tree := fun xs obs => match xs, obs with
 | [.cl (.sli .u8 b)], [] => .leaf (.ret [.cl (.int .u32 ((oidNumber b).1)), .cl (.int .i64 ((oidNumber b).2))] [])
 | _, _ => .fail
noncomputable def preONumber : List V -> List Obj -> Bool := fun xs obs => match xs, obs with
 | [.cl (.sli .u8 b)], [] => bytesOk b
 | _, _ => false
noncomputable def SONumbers : List V -> List Obj -> Tree := fun xs obs => match xs, obs with
 | [.cl (.sli .u8 b)], [] => .leaf (.ret [.fn (.func 154) [] [.ptr 0 0 0]] [some ⟨.var [.cl (.sli .u8 b)], false⟩])
 | _, _ => .fail
noncomputable def preONumbers : List V -> List Obj -> Bool := fun xs obs => match xs, obs with
 | [.cl (.sli .u8 b)], [] => true
 | _, _ => false
noncomputable def SOParse : List V -> List Obj -> Tree := fun xs obs => match xs, obs with
 | [.cl (.sli .u8 b)], [] => .leaf (.ret [.cl (.sli .u32 ((oidParse b).1)), .cl (.int .i64 ((oidParse b).2))] [])
 | _, _ => .fail
noncomputable def preOParse : List V -> List Obj -> Bool := fun xs obs => match xs, obs with
 | [.cl (.sli .u8 b)], [] => bytesOk b
 | _, _ => false
noncomputable def SR2Parse : List V -> List Obj -> Tree := fun xs obs => match xs, obs with
 | [.cl (.sli .u8 b)], [] => .leaf (.ret [.cl (.sli .u32 ((oidParse b).1)), .cl (.int .i64 ((oidParse b).2))] [])
 | _, _ => .fail
noncomputable def preR2Parse : List V -> List Obj -> Bool := fun xs obs => match xs, obs with
 | [.cl (.sli .u8 b)], [] => bytesOk b
 | _, _ => false
noncomputable def SR1Same : List V -> List Obj -> Tree := fun xs obs => match xs, obs with
 | [.cl (.sli .u8 a), .cl (.sli .u8 b)], [] => .leaf (.ret [.cl (.bool (listSame a b))] [])
 | _, _ => .fail
noncomputable def preR1Same : List V -> List Obj -> Bool := fun xs obs => match xs, obs with
 | [.cl (.sli .u8 a), .cl (.sli .u8 b)], [] => lenOk a
 | _, _ => false
noncomputable def SSClone : List V -> List Obj -> Tree := fun xs obs => match xs, obs with
 | [.cl (.sli .u8 b)], [] => .leaf (.ret [.cl (.sli .u8 b)] [])
 | _, _ => .fail
noncomputable def preSClone : List V -> List Obj -> Bool := fun xs obs => match xs, obs with
 | [.cl (.sli .u8 b)], [] => lenOk b
 | _, _ => false
noncomputable def SR4Less : List V -> List Obj -> Tree := fun xs obs => match xs, obs with
 | [.cl (.sli .u8 a), .cl (.sli .u8 b)], [] => .leaf (.ret [.cl (.bool (listLess a b))] [])
 | _, _ => .fail
noncomputable def preR4Less : List V -> List Obj -> Bool := fun xs obs => match xs, obs with
 | [.cl (.sli .u8 a), .cl (.sli .u8 b)], [] => lenOk a
 | _, _ => false
noncomputable def SUWord : List V -> List Obj -> Tree := fun xs obs => match xs, obs with
 | [.cl (.sli .u8 b)], [] => .leaf (.ret [.cl (.int .u64 (u8Word b))] [])
 | _, _ => .fail
noncomputable def preUWord : List V -> List Obj -> Bool := fun xs obs => match xs, obs with
 | [.cl (.sli .u8 b)], [] => bytesOk b && decide (8 <= b.length)
 | _, _ => false
noncomputable def SUValid : List V -> List Obj -> Tree := fun xs obs => match xs, obs with
 | [.cl (.sli .u8 b)], [] => .leaf (.ret [.cl (.bool (u8Valid b))] [])
 | _, _ => .fail
noncomputable def preUValid : List V -> List Obj -> Bool := fun xs obs => match xs, obs with
 | [.cl (.sli .u8 b)], [] => bytesOk b
 | _, _ => false
noncomputable def SRSame : List V -> List Obj -> Tree := fun xs obs => match xs, obs with
 | [.cl (.agg a), .cl (.agg b)], [] => .leaf (.ret [.cl (.bool (ndSame a b))] [])
 | _, _ => .fail
noncomputable def preRSame : List V -> List Obj -> Bool := fun xs obs => match xs, obs with
 | [.cl (.agg a), .cl (.agg b)], [] => isN a && isN b
 | _, _ => false
noncomputable def preRRSame (rk : Nat) : List V -> List Obj -> Bool := fun xs obs => match xs, obs with
 | [.cl (.agg a), .cl (.agg b)], [] => isNr rk a && isN b
 | _, _ => false
noncomputable def SDFits : List V -> List Obj -> Tree := fun xs obs => match xs, obs with
 | [.cl (.int .i64 tag), .cl (.sli .u8 b)], [] => .leaf (.ret [.cl (.bool (derFits tag b))] [])
 | _, _ => .fail
noncomputable def preDFits : List V -> List Obj -> Bool := fun xs obs => match xs, obs with
 | [.cl (.int .i64 tag), .cl (.sli .u8 b)], [] => bytesOk b
 | _, _ => false
noncomputable def SRFits : List V -> List Obj -> Tree := fun xs obs => match xs, obs with
 | [.cl (.int .i64 tag), .cl (.sli .u8 b)], [] => .leaf (.ret [.cl (.bool (derFits tag b))] [])
 | _, _ => .fail
noncomputable def preRFits : List V -> List Obj -> Bool := fun xs obs => match xs, obs with
 | [.cl (.int .i64 tag), .cl (.sli .u8 b)], [] => bytesOk b
 | _, _ => false
noncomputable def SR4Sorted : List V -> List Obj -> Tree := fun xs obs => match xs, obs with
 | [.cl (.slg 1 l)], [] => .leaf (.ret [.cl (.bool (rowsSorted l))] [])
 | _, _ => .fail
noncomputable def preR4Sorted : List V -> List Obj -> Bool := fun xs obs => match xs, obs with
 | [.cl (.slg 1 l)], [] => rowsOk l
 | _, _ => false
noncomputable def SBACompare : List V -> List Obj -> Tree := fun xs obs => match xs, obs with
 | [.cl (.sli .u8 a), .cl (.sli .u8 b)], [] => .leaf (.ret [.cl (.int .i64 (listCmp a b))] [])
 | _, _ => .fail
noncomputable def preBACompare : List V -> List Obj -> Bool := fun xs obs => match xs, obs with
 | [.cl (.sli .u8 a), .cl (.sli .u8 b)], [] => bytesOk a && bytesOk b
 | _, _ => false
noncomputable def SBCompare : List V -> List Obj -> Tree := fun xs obs => match xs, obs with
 | [.cl (.sli .u8 a), .cl (.sli .u8 b)], [] => .leaf (.ret [.cl (.int .i64 (listCmp a b))] [])
 | _, _ => .fail
noncomputable def preBCompare : List V -> List Obj -> Bool := fun xs obs => match xs, obs with
 | [.cl (.sli .u8 a), .cl (.sli .u8 b)], [] => bytesOk a && bytesOk b
 | _, _ => false
noncomputable def SOLess : List V -> List Obj -> Tree := fun xs obs => match xs, obs with
 | [.cl (.sli .u8 a), .cl (.sli .u8 b)], [] => .leaf (.ret [.cl (.bool (decide (listCmp a b <= 0)))] [])
 | _, _ => .fail
noncomputable def preOLess : List V -> List Obj -> Bool := fun xs obs => match xs, obs with
 | [.cl (.sli .u8 a), .cl (.sli .u8 b)], [] => bytesOk a && bytesOk b
 | _, _ => false
noncomputable def SOSteps : List V -> List Obj -> Tree := fun xs obs => match xs, obs with
 | [.cl (.slg 1 l), .cl (.fn (.func 163) [] [])], [] => .leaf (.ret [.cl (.bool (rowsSorted l))] [])
 | _, _ => .fail
noncomputable def preOSteps : List V -> List Obj -> Bool := fun xs obs => match xs, obs with
 | [.cl (.slg 1 l), .cl (.fn (.func 163) [] [])], [] => rowsOk l
 | _, _ => false
noncomputable def SOSorted : List V -> List Obj -> Tree := fun xs obs => match xs, obs with
 | [.cl (.slg 1 l)], [] => .leaf (.ret [.cl (.bool (rowsSorted l))] [])
 | _, _ => .fail
noncomputable def preOSorted : List V -> List Obj -> Bool := fun xs obs => match xs, obs with
 | [.cl (.slg 1 l)], [] => rowsOk l
 | _, _ => false
noncomputable def SRSmall : List V -> List Obj -> Tree := fun xs obs => match xs, obs with
 | [.cl (.agg a), .cl (.int .i64 left)], [] => .leaf (.ret [.cl (.int .i64 (ndSmall a left))] [])
 | _, _ => .fail
noncomputable def preRSmall : List V -> List Obj -> Bool := fun xs obs => match xs, obs with
 | [.cl (.agg a), .cl (.int .i64 left)], [] => isT a && leftOk left
 | _, _ => false
noncomputable def preRRSmall (rk : Nat) : List V -> List Obj -> Bool := fun xs obs => match xs, obs with
 | [.cl (.agg a), .cl (.int .i64 left)], [] => isTr rk a && leftOk left
 | _, _ => false
noncomputable def SDSize : List V -> List Obj -> Tree := fun xs obs => match xs, obs with
 | [.cl (.agg a), .cl (.int .i64 deep)], [] => .leaf (.ret [.cl (.int .i64 (ndSize a deep))] [])
 | _, _ => .fail
noncomputable def preDSize : List V -> List Obj -> Bool := fun xs obs => match xs, obs with
 | [.cl (.agg a), .cl (.int .i64 deep)], [] => isS a && deepOk deep
 | _, _ => false
noncomputable def preRDSize (rk : Nat) : List V -> List Obj -> Bool := fun xs obs => match xs, obs with
 | [.cl (.agg a), .cl (.int .i64 deep)], [] => isSr rk a && deepOk deep
 | _, _ => false
noncomputable def SDPut : List V -> List Obj -> Tree := fun xs obs => match xs, obs with
 | [.nils, .cl (.int .i64 tag), .cl (.int .i64 n)], [] => .leaf (.ret [.ref 0 0 ((derHead tag n).length) true 1] [some ⟨.ints .u8 (derHead tag n), false⟩])
 | _, _ => .fail
noncomputable def preDPut : List V -> List Obj -> Bool := fun xs obs => match xs, obs with
 | [.nils, .cl (.int .i64 tag), .cl (.int .i64 n)], [] => headOk tag n
 | _, _ => false
noncomputable def SRHead : List V -> List Obj -> Tree := fun xs obs => match xs, obs with
 | [.cl (.int .i64 tag), .cl (.int .i64 n)], [] => .leaf (.ret [.ref 0 0 ((derHead tag n).length) true 1] [some ⟨.ints .u8 (derHead tag n), false⟩])
 | _, _ => .fail
noncomputable def preRHead : List V -> List Obj -> Bool := fun xs obs => match xs, obs with
 | [.cl (.int .i64 tag), .cl (.int .i64 n)], [] => headOk tag n
 | _, _ => false
noncomputable def SR1Join : List V -> List Obj -> Tree := fun xs obs => match xs, obs with
 | [.cl (.slg 1 l)], [] => .leaf (.ret [.cl (.sli .u8 (rowsJoin l))] [])
 | _, _ => .fail
noncomputable def preR1Join : List V -> List Obj -> Bool := fun xs obs => match xs, obs with
 | [.cl (.slg 1 l)], [] => joinOk l
 | _, _ => false
noncomputable def SSConcat : List V -> List Obj -> Tree := fun xs obs => match xs, obs with
 | [.cl (.slg 1 l)], [] => .leaf (.ret [.cl (.sli .u8 (rowsJoin l))] [])
 | _, _ => .fail
noncomputable def preSConcat : List V -> List Obj -> Bool := fun xs obs => match xs, obs with
 | [.cl (.slg 1 l)], [] => joinOk l
 | _, _ => false
noncomputable def SDWrite : List V -> List Obj -> Tree := fun xs obs => match xs, obs with
 | [.cl (.agg a)], [] => .leaf (.ret [.cl (.sli .u8 ((ndWrite a).1)), .cl (.bool ((ndWrite a).2))] [])
 | _, _ => .fail
noncomputable def preDWrite : List V -> List Obj -> Bool := fun xs obs => match xs, obs with
 | [.cl (.agg a)], [] => isW a
 | _, _ => false
noncomputable def preRDWrite (rk : Nat) : List V -> List Obj -> Bool := fun xs obs => match xs, obs with
 | [.cl (.agg a)], [] => isWr rk a
 | _, _ => false
noncomputable def SRWrite : List V -> List Obj -> Tree := fun xs obs => match xs, obs with
 | [.cl (.agg a), .cl (.int .i64 deep)], [] => .leaf (.ret [.cl (.sli .u8 ((ndWriteR a deep).1)), .cl (.bool ((ndWriteR a deep).2))] [])
 | _, _ => .fail
noncomputable def preRWrite : List V -> List Obj -> Bool := fun xs obs => match xs, obs with
 | [.cl (.agg a), .cl (.int .i64 deep)], [] => isS a && deepOk deep
 | _, _ => false
noncomputable def preRRWrite (rk : Nat) : List V -> List Obj -> Bool := fun xs obs => match xs, obs with
 | [.cl (.agg a), .cl (.int .i64 deep)], [] => isSr rk a && deepOk deep
 | _, _ => false
noncomputable def SDBytes : List V -> List Obj -> Tree := fun xs obs => match xs, obs with
 | [.cl (.agg a)], [] => .leaf (.ret [.cl (.sli .u8 ((ndBytes a).1)), .cl (.int .i64 ((ndBytes a).2))] [])
 | _, _ => .fail
noncomputable def preDBytes : List V -> List Obj -> Bool := fun xs obs => match xs, obs with
 | [.cl (.agg a)], [] => isS a
 | _, _ => false
noncomputable def SDFit_ : List V -> List Obj -> Tree := fun xs obs => match xs, obs with
 | [.cl (.agg a)], [] => .leaf (.ret [.cl (.bool (ndFit a))] [])
 | _, _ => .fail
noncomputable def preDFit_ : List V -> List Obj -> Bool := fun xs obs => match xs, obs with
 | [.cl (.agg a)], [] => isS a
 | _, _ => false
noncomputable def SRBytes : List V -> List Obj -> Tree := fun xs obs => match xs, obs with
 | [.cl (.agg a)], [] => .leaf (.ret [.cl (.sli .u8 ((ndBytes a).1)), .cl (.int .i64 ((ndBytes a).2))] [])
 | _, _ => .fail
noncomputable def preRBytes : List V -> List Obj -> Bool := fun xs obs => match xs, obs with
 | [.cl (.agg a)], [] => isS a
 | _, _ => false
noncomputable def SRFit_ : List V -> List Obj -> Tree := fun xs obs => match xs, obs with
 | [.cl (.agg a)], [] => .leaf (.ret [.cl (.bool (ndFit a))] [])
 | _, _ => .fail
noncomputable def preRFit_ : List V -> List Obj -> Bool := fun xs obs => match xs, obs with
 | [.cl (.agg a)], [] => isS a
 | _, _ => false
noncomputable def SSGrow : List V -> List Obj -> Tree := fun xs obs => match xs, obs with
 | [.nils, .cl (.int .i64 n)], [] => .leaf (.ret [.ref 0 0 0 true 1] [some ⟨.ints .u8 noInts, false⟩])
 | _, _ => .fail
noncomputable def preSGrow : List V -> List Obj -> Bool := fun xs obs => match xs, obs with
 | [.nils, .cl (.int .i64 n)], [] => growOk n
 | _, _ => false
noncomputable def SR2Same : List V -> List Obj -> Tree := fun xs obs => match xs, obs with
 | [.cl (.sli .u32 a), .cl (.sli .u32 b)], [] => .leaf (.ret [.cl (.bool (listSame a b))] [])
 | _, _ => .fail
noncomputable def preR2Same : List V -> List Obj -> Bool := fun xs obs => match xs, obs with
 | [.cl (.sli .u32 a), .cl (.sli .u32 b)], [] => lenOk a
 | _, _ => false
noncomputable def SSEq32 : List V -> List Obj -> Tree := fun xs obs => match xs, obs with
 | [.cl (.sli .u32 a), .cl (.sli .u32 b)], [] => .leaf (.ret [.cl (.bool (listSame a b))] [])
 | _, _ => .fail
noncomputable def preSEq32 : List V -> List Obj -> Bool := fun xs obs => match xs, obs with
 | [.cl (.sli .u32 a), .cl (.sli .u32 b)], [] => lenOk a
 | _, _ => false
noncomputable def SOSame : List V -> List Obj -> Tree := fun xs obs => match xs, obs with
 | [.cl (.sli .u32 a), .cl (.sli .u32 b)], [] => .leaf (.ret [.cl (.bool (listSame a b))] [])
 | _, _ => .fail
noncomputable def preOSame : List V -> List Obj -> Bool := fun xs obs => match xs, obs with
 | [.cl (.sli .u32 a), .cl (.sli .u32 b)], [] => lenOk a
 | _, _ => false
noncomputable def SOPut : List V -> List Obj -> Tree := fun xs obs => match xs, obs with
 | [.nils, .cl (.int .u32 n)], [] => .leaf (.ret [.ref 0 0 ((oidGroups n).length) true 1] [some ⟨.ints .u8 (oidGroups n), false⟩])
 | [.ref 0 0 m true 1, .cl (.int .u32 n)], [⟨.ints .u8 l, false⟩] => .leaf (.ret [.ref 1 0 ((l ++ oidGroups n).length) true 1] [none, some ⟨.ints .u8 (l ++ oidGroups n), false⟩])
 | _, _ => .fail
noncomputable def preOPut : List V -> List Obj -> Bool := fun xs obs => match xs, obs with
 | [.nils, .cl (.int .u32 n)], [] => u32Ok n
 | [.ref 0 0 m true 1, .cl (.int .u32 n)], [⟨.ints .u8 l, false⟩] => u32Ok n && lenOk l
 | _, _ => false
noncomputable def SOBytes : List V -> List Obj -> Tree := fun xs obs => match xs, obs with
 | [.cl (.sli .u32 o)], [] => .leaf (.ret [.cl (.sli .u8 (oidBytes o))] [])
 | _, _ => .fail
noncomputable def preOBytes : List V -> List Obj -> Bool := fun xs obs => match xs, obs with
 | [.cl (.sli .u32 o)], [] => u32sOk o
 | _, _ => false
noncomputable def SVBNum : List V -> List Obj -> Tree := fun xs obs => match xs, obs with
 | [.cl (.sli .u8 b)], [] => .leaf (.ret [.cl (.int .u64 (bytesNum b))] [])
 | _, _ => .fail
noncomputable def preVBNum : List V -> List Obj -> Bool := fun xs obs => match xs, obs with
 | [.cl (.sli .u8 b)], [] => num8 b
 | _, _ => false
noncomputable def SVLe : List V -> List Obj -> Tree := fun xs obs => match xs, obs with
 | [.cl (.int .u64 n), .cl (.int .i64 8)], [] => .leaf (.ret [.ref 0 0 8 true 1] [some ⟨.ints .u8 (vLe n), false⟩])
 | _, _ => .fail
noncomputable def preVLe : List V -> List Obj -> Bool := fun xs obs => match xs, obs with
 | [.cl (.int .u64 n), .cl (.int .i64 8)], [] => u64Ok n
 | _, _ => false
noncomputable def SVReverse : List V -> List Obj -> Tree := fun xs obs => match xs, obs with
 | [.ref 0 0 8 true 1], [⟨.ints .u8 l, false⟩] => .leaf (.ret [] [some ⟨.ints .u8 (vRev l), false⟩])
 | _, _ => .fail
noncomputable def preVReverse : List V -> List Obj -> Bool := fun xs obs => match xs, obs with
 | [.ref 0 0 8 true 1], [⟨.ints .u8 l, false⟩] => revOk l
 | _, _ => false
noncomputable def SVBe : List V -> List Obj -> Tree := fun xs obs => match xs, obs with
 | [.cl (.int .u64 n), .cl (.int .i64 8)], [] => .leaf (.ret [.cl (.sli .u8 (vBe n))] [])
 | _, _ => .fail
noncomputable def preVBe : List V -> List Obj -> Bool := fun xs obs => match xs, obs with
 | [.cl (.int .u64 n), .cl (.int .i64 8)], [] => u64Ok n
 | _, _ => false
noncomputable def SVInt : List V -> List Obj -> Tree := fun xs obs => match xs, obs with
 | [.cl (.int .i64 n)], [] => .leaf (.ret [.cl (.agg [.int .i64 2, .sli .u8 (vInt n), .slg 3 noKids])] [])
 | _, _ => .fail
noncomputable def preVInt : List V -> List Obj -> Bool := fun xs obs => match xs, obs with
 | [.cl (.int .i64 n)], [] => stI64 n
 | _, _ => false
noncomputable def SVNumber : List V -> List Obj -> Tree := fun xs obs => match xs, obs with
 | [.cl (.sli .u8 b)], [] => .leaf (.ret [.cl (.int .i64 ((vNumber b).1)), .cl (.int .i64 ((vNumber b).2))] [])
 | _, _ => .fail
noncomputable def preVNumber : List V -> List Obj -> Bool := fun xs obs => match xs, obs with
 | [.cl (.sli .u8 b)], [] => bytesOk b
 | _, _ => false
noncomputable def SVTime1 : List V -> List Obj -> Tree := fun xs obs => match xs, obs with
 | [.cl (.sli .u8 b)], [] => .leaf (.ret [.cl (.int .i64 ((stRead (strOf b)).1)), .cl (.int .i64 ((stRead (strOf b)).2))] [])
 | _, _ => .fail
noncomputable def preVTime1 : List V -> List Obj -> Bool := fun xs obs => match xs, obs with
 | [.cl (.sli .u8 b)], [] => true
 | _, _ => false
noncomputable def SVToldI : List V -> List Obj -> Tree := fun xs obs => match xs, obs with
 | [.cl (.agg [.int .i64 t, .sli .u8 b, .slg 3 k]), .cl (.int .i64 2), .cl (.fn (.func 75) [] [])], [] => .leaf (.ret [.cl (.int .i64 ((vIntOf t b k).1)), .cl (.int .i64 ((vIntOf t b k).2))] [])
 | [.cl (.agg [.int .i64 t, .sli .u8 b, .slg 3 k]), .cl (.int .i64 24), .cl (.fn (.func 84) [] [])], [] => .leaf (.ret [.cl (.int .i64 ((vTimeOf t b k).1)), .cl (.int .i64 ((vTimeOf t b k).2))] [])
 | _, _ => .fail
noncomputable def preVToldI : List V -> List Obj -> Bool := fun xs obs => match xs, obs with
 | [.cl (.agg [.int .i64 t, .sli .u8 b, .slg 3 k]), .cl (.int .i64 2), .cl (.fn (.func 75) [] [])], [] => isS [.int .i64 t, .sli .u8 b, .slg 3 k]
 | [.cl (.agg [.int .i64 t, .sli .u8 b, .slg 3 k]), .cl (.int .i64 24), .cl (.fn (.func 84) [] [])], [] => isS [.int .i64 t, .sli .u8 b, .slg 3 k]
 | _, _ => false
noncomputable def SVToldO : List V -> List Obj -> Tree := fun xs obs => match xs, obs with
 | [.cl (.agg [.int .i64 t, .sli .u8 b, .slg 3 k]), .cl (.int .i64 6), .cl (.fn (.func 82) [] [])], [] => .leaf (.ret [.cl (.sli .u32 ((vIdOf t b k).1)), .cl (.int .i64 ((vIdOf t b k).2))] [])
 | _, _ => .fail
noncomputable def preVToldO : List V -> List Obj -> Bool := fun xs obs => match xs, obs with
 | [.cl (.agg [.int .i64 t, .sli .u8 b, .slg 3 k]), .cl (.int .i64 6), .cl (.fn (.func 82) [] [])], [] => isS [.int .i64 t, .sli .u8 b, .slg 3 k]
 | _, _ => false
noncomputable def SVIntOf : List V -> List Obj -> Tree := fun xs obs => match xs, obs with
 | [.cl (.agg [.int .i64 t, .sli .u8 b, .slg 3 k])], [] => .leaf (.ret [.cl (.int .i64 ((vIntOf t b k).1)), .cl (.int .i64 ((vIntOf t b k).2))] [])
 | _, _ => .fail
noncomputable def preVIntOf : List V -> List Obj -> Bool := fun xs obs => match xs, obs with
 | [.cl (.agg [.int .i64 t, .sli .u8 b, .slg 3 k])], [] => isS [.int .i64 t, .sli .u8 b, .slg 3 k]
 | _, _ => false
noncomputable def SVBytesOf : List V -> List Obj -> Tree := fun xs obs => match xs, obs with
 | [.cl (.agg [.int .i64 t, .sli .u8 b, .slg 3 k])], [] => .leaf (.ret [.cl (.sli .u8 ((vBytesOf t b k).1)), .cl (.int .i64 ((vBytesOf t b k).2))] [])
 | _, _ => .fail
noncomputable def preVBytesOf : List V -> List Obj -> Bool := fun xs obs => match xs, obs with
 | [.cl (.agg [.int .i64 t, .sli .u8 b, .slg 3 k])], [] => isS [.int .i64 t, .sli .u8 b, .slg 3 k]
 | _, _ => false
noncomputable def SVIdOf : List V -> List Obj -> Tree := fun xs obs => match xs, obs with
 | [.cl (.agg [.int .i64 t, .sli .u8 b, .slg 3 k])], [] => .leaf (.ret [.cl (.sli .u32 ((vIdOf t b k).1)), .cl (.int .i64 ((vIdOf t b k).2))] [])
 | _, _ => .fail
noncomputable def preVIdOf : List V -> List Obj -> Bool := fun xs obs => match xs, obs with
 | [.cl (.agg [.int .i64 t, .sli .u8 b, .slg 3 k])], [] => isS [.int .i64 t, .sli .u8 b, .slg 3 k]
 | _, _ => false
noncomputable def SVMade : List V -> List Obj -> Tree := fun xs obs => match xs, obs with
 | [.cl (.int .i64 g), .cl (.sli .u8 b)], [] => .leaf (.ret [.cl (.agg [.int .i64 ((vMade g b).1), .sli .u8 ((vMade g b).2.1), .slg 3 noKids]), .cl (.int .i64 ((vMade g b).2.2))] [])
 | _, _ => .fail
noncomputable def preVMade : List V -> List Obj -> Bool := fun xs obs => match xs, obs with
 | [.cl (.int .i64 g), .cl (.sli .u8 b)], [] => madeOk g b
 | _, _ => false
noncomputable def SVId : List V -> List Obj -> Tree := fun xs obs => match xs, obs with
 | [.cl (.sli .u32 o)], [] => .leaf (.ret [.cl (.agg [.int .i64 ((vMade 6 (oidBytes o)).1), .sli .u8 ((vMade 6 (oidBytes o)).2.1), .slg 3 noKids]), .cl (.int .i64 ((vMade 6 (oidBytes o)).2.2))] [])
 | _, _ => .fail
noncomputable def preVId : List V -> List Obj -> Bool := fun xs obs => match xs, obs with
 | [.cl (.sli .u32 o)], [] => idOk o
 | _, _ => false
noncomputable def SVBytes : List V -> List Obj -> Tree := fun xs obs => match xs, obs with
 | [.cl (.sli .u8 b)], [] => .leaf (.ret [.cl (.agg [.int .i64 4, .sli .u8 b, .slg 3 noKids])] [])
 | _, _ => .fail
noncomputable def preVBytes : List V -> List Obj -> Bool := fun xs obs => match xs, obs with
 | [.cl (.sli .u8 b)], [] => lenOk b
 | _, _ => false
noncomputable def SVClone : List V -> List Obj -> Tree := fun xs obs => match xs, obs with
 | [.cl (.slg 3 l)], [] => .leaf (.ret [.cl (.slg 3 l)] [])
 | _, _ => .fail
noncomputable def preVClone : List V -> List Obj -> Bool := fun xs obs => match xs, obs with
 | [.cl (.slg 3 l)], [] => lenOkC l
 | _, _ => false
noncomputable def SVSeq : List V -> List Obj -> Tree := fun xs obs => match xs, obs with
 | [.cl (.slg 3 l)], [] => .leaf (.ret [.cl (.agg [.int .i64 48, .sli .u8 noInts, .slg 3 l])] [])
 | _, _ => .fail
noncomputable def preVSeq : List V -> List Obj -> Bool := fun xs obs => match xs, obs with
 | [.cl (.slg 3 l)], [] => lenOkC l
 | _, _ => false
noncomputable def SVKids : List V -> List Obj -> Tree := fun xs obs => match xs, obs with
 | [.cl (.agg [.int .i64 t, .sli .u8 b, .slg 3 k]), .cl (.int .i64 g)], [] => .leaf (.ret [.cl (.slg 3 ((vKids g t b k).1)), .cl (.int .i64 ((vKids g t b k).2))] [])
 | _, _ => .fail
noncomputable def preVKids : List V -> List Obj -> Bool := fun xs obs => match xs, obs with
 | [.cl (.agg [.int .i64 t, .sli .u8 b, .slg 3 k]), .cl (.int .i64 g)], [] => lenOkC k
 | _, _ => false
noncomputable def SARoot : List V -> List Obj -> Tree := fun xs obs => match xs, obs with
 | [.cl (.int .i64 0)], [] => .leaf (.ret [.ref 0 0 8 true 1] [some ⟨.ints .u32 [2, 16, 840, 1, 101, 3, 4, 2], false⟩])
 | [.cl (.int .i64 1)], [] => .leaf (.ret [.ref 0 0 8 true 1] [some ⟨.ints .u32 [2, 16, 840, 1, 101, 3, 4, 3], false⟩])
 | [.cl (.int .i64 2)], [] => .leaf (.ret [.ref 0 0 8 true 1] [some ⟨.ints .u32 [2, 16, 840, 1, 101, 3, 4, 4], false⟩])
 | [.cl (.int .i64 3)], [] => .leaf (.ret [.ref 0 0 8 true 1] [some ⟨.ints .u32 [2, 16, 840, 1, 101, 3, 4, 1], false⟩])
 | [.cl (.int .i64 4)], [] => .leaf (.ret [.ref 0 0 8 true 1] [some ⟨.ints .u32 [1, 2, 840, 113549, 1, 9, 16, 3], false⟩])
 | [.cl (.int .i64 5)], [] => .leaf (.ret [.ref 0 0 2 true 1] [some ⟨.ints .u32 [2, 999], false⟩])
 | _, _ => .fail
noncomputable def preARoot : List V -> List Obj -> Bool := fun xs obs => match xs, obs with
 | [.cl (.int .i64 0)], [] => true
 | [.cl (.int .i64 1)], [] => true
 | [.cl (.int .i64 2)], [] => true
 | [.cl (.int .i64 3)], [] => true
 | [.cl (.int .i64 4)], [] => true
 | [.cl (.int .i64 5)], [] => true
 | _, _ => false
noncomputable def SAAll : List V -> List Obj -> Tree := fun xs obs => match xs, obs with
 | [], [] => .leaf (.ret [.cl (.fn (.func 131) [] [])] [])
 | _, _ => .fail
noncomputable def preAAll : List V -> List Obj -> Bool := fun xs obs => match xs, obs with
 | [], [] => true
 | _, _ => false
noncomputable def SAFound : List V -> List Obj -> Tree := fun xs obs => match xs, obs with
 | [.cl (.int .i64 g)], [] => .leaf (.ret [.cl (.agg [.int .i64 ((algFound g).1), .int .i64 ((algFound g).2.1), .sli .u32 ((algFound g).2.2)])] [])
 | _, _ => .fail
noncomputable def preAFound : List V -> List Obj -> Bool := fun xs obs => match xs, obs with
 | [.cl (.int .i64 g)], [] => true
 | _, _ => false
noncomputable def SAGroup : List V -> List Obj -> Tree := fun xs obs => match xs, obs with
 | [.cl (.int .i64 g)], [] => .leaf (.ret [.cl (.int .i64 ((algFound g).2.1))] [])
 | _, _ => .fail
noncomputable def preAGroup : List V -> List Obj -> Bool := fun xs obs => match xs, obs with
 | [.cl (.int .i64 g)], [] => true
 | _, _ => false
noncomputable def SAId : List V -> List Obj -> Tree := fun xs obs => match xs, obs with
 | [.cl (.int .i64 g)], [] => .leaf (.ret [.cl (.sli .u32 ((algFound g).2.2))] [])
 | _, _ => .fail
noncomputable def preAId : List V -> List Obj -> Bool := fun xs obs => match xs, obs with
 | [.cl (.int .i64 g)], [] => true
 | _, _ => false
noncomputable def SAOf : List V -> List Obj -> Tree := fun xs obs => match xs, obs with
 | [.cl (.sli .u32 o)], [] => .leaf (.ret [.cl (.int .i64 (algOf o))] [])
 | _, _ => .fail
noncomputable def preAOf : List V -> List Obj -> Bool := fun xs obs => match xs, obs with
 | [.cl (.sli .u32 o)], [] => true
 | _, _ => false
noncomputable def SAName : List V -> List Obj -> Tree := fun xs obs => match xs, obs with
 | [.cl (.int .i64 g)], [] => .leaf (.ret [.cl (.sli .u32 (algName g))] [])
 | _, _ => .fail
noncomputable def preAName : List V -> List Obj -> Bool := fun xs obs => match xs, obs with
 | [.cl (.int .i64 g)], [] => true
 | _, _ => false
noncomputable def SAUsed : List V -> List Obj -> Tree := fun xs obs => match xs, obs with
 | [.cl (.int .i64 g)], [] => .leaf (.ret [.cl (.int .i64 (algUsed g))] [])
 | _, _ => .fail
noncomputable def preAUsed : List V -> List Obj -> Bool := fun xs obs => match xs, obs with
 | [.cl (.int .i64 g)], [] => true
 | _, _ => false
noncomputable def SANode : List V -> List Obj -> Tree := fun xs obs => match xs, obs with
 | [.cl (.int .i64 g), .cl (.sli .u8 b)], [] => .leaf (.ret [.cl (.agg [.int .i64 ((algNode g b).1), .sli .u8 noInts, .slg 3 ((algNode g b).2.1)]), .cl (.int .i64 ((algNode g b).2.2))] [])
 | _, _ => .fail
noncomputable def preANode : List V -> List Obj -> Bool := fun xs obs => match xs, obs with
 | [.cl (.int .i64 g), .cl (.sli .u8 b)], [] => lenOk b
 | _, _ => false
noncomputable def SATail : List V -> List Obj -> Tree := fun xs obs => match xs, obs with
 | [.cl (.int .i64 g), .cl (.slg 3 l)], [] => .leaf (.ret [.cl (.sli .u8 ((algTail g l).1)), .cl (.bool ((algTail g l).2))] [])
 | _, _ => .fail
noncomputable def preATail : List V -> List Obj -> Bool := fun xs obs => match xs, obs with
 | [.cl (.int .i64 g), .cl (.slg 3 l)], [] => tailOk l
 | _, _ => false
noncomputable def SARead : List V -> List Obj -> Tree := fun xs obs => match xs, obs with
 | [.cl (.agg [.int .i64 t, .sli .u8 b, .slg 3 k])], [] => .leaf (.ret [.cl (.int .i64 ((algRead t b k).1)), .cl (.sli .u8 ((algRead t b k).2.1)), .cl (.int .i64 ((algRead t b k).2.2))] [])
 | _, _ => .fail
noncomputable def preARead : List V -> List Obj -> Bool := fun xs obs => match xs, obs with
 | [.cl (.agg [.int .i64 t, .sli .u8 b, .slg 3 k])], [] => isS [.int .i64 t, .sli .u8 b, .slg 3 k]
 | _, _ => false
noncomputable def SAAwake : List V -> List Obj -> Tree := fun xs obs => match xs, obs with
 | [], [] => .leaf (.ret [.cl (.bool true)] [])
 | _, _ => .fail
noncomputable def preAAwake : List V -> List Obj -> Bool := fun xs obs => match xs, obs with
 | [], [] => true
 | _, _ => false
noncomputable def SALBack : List V -> List Obj -> Tree := fun xs obs => match xs, obs with
 | [.cl (.int .i64 g), .cl (.int .i64 h), .cl (.sli .u8 c), .cl (.agg [.int .i64 t, .sli .u8 b, .slg 3 k])], [] => .leaf (.ret [.cl (.bool true)] [])
 | _, _ => .fail
noncomputable def preALBack : List V -> List Obj -> Bool := fun xs obs => match xs, obs with
 | [.cl (.int .i64 g), .cl (.int .i64 h), .cl (.sli .u8 c), .cl (.agg [.int .i64 t, .sli .u8 b, .slg 3 k])], [] => stI64 g && (stI64 h && (bytesAll c && isT [.int .i64 t, .sli .u8 b, .slg 3 k]))
 | _, _ => false
noncomputable def QONums : List V -> List Obj -> Option (List (List CV)) := fun xs obs => match xs, obs with
 | [.ptr 0 0 0], [⟨.var [.cl (.sli .u8 b)], false⟩] => some (oidRows (oidNums b))
 | _, _ => none
noncomputable def preONums : List V -> List Obj -> Bool := fun xs obs => match xs, obs with
 | [.ptr 0 0 0], [⟨.var [.cl (.sli .u8 b)], false⟩] => bytesOk b
 | _, _ => false
def okONums : List CV -> Bool := fun x => match x with
 | [.int .u32 _, .bool _] => true
 | _ => false
theorem okONums_of {x : List CV} (h : okONums x = true) : ∃ e1 e2, x = [.int .u32 e1, .bool e2] := by
 unfold okONums at h
 split at h
 ·exact ⟨_, _, rfl⟩
 ·cases h
noncomputable def QAlAll : List V -> List Obj -> Option (List (List CV)) := fun xs obs => match xs, obs with
 | [], [] => some (algRows)
 | _, _ => none
noncomputable def preAlAll : List V -> List Obj -> Bool := fun xs obs => match xs, obs with
 | [], [] => true
 | _, _ => false
def okAlAll : List CV -> Bool := fun x => match x with
 | [.agg [.int .i64 _, .int .i64 _, .sli .u32 _]] => true
 | _ => false
theorem okAlAll_of {x : List CV} (h : okAlAll x = true) : ∃ e1 e2 e3, x = [.agg [.int .i64 e1, .int .i64 e2, .sli .u32 e3]] := by
 unfold okAlAll at h
 split at h
 ·exact ⟨_, _, _, rfl⟩
 ·cases h
end Go.Proofs.YtfkpjbbkdkcdcaaDoorA
