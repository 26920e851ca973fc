/-
 Times as plain functions: what the stamp layer computes. Conditions: none.
-/
import Derived.Test.YtfkpjbbkdkcdcabDoorK3
import Derived.Lib.ItoaMem
import Derived.Lib.ParseIntB
import Derived.Lib.Split
import Derived.Lib.CountLaws
import Derived.Lib.IndexBytes
import Derived.Lib.Join
import Derived.Lib.LaidTab
import Derived.Test.YtfkpjbbkdkcdcabDoorProg
set_option linter.unusedVariables false
namespace Go.Proofs.YtfkpjbbkdkcdcabDoorA

def stOk (y : Int) : Bool := decide (1 <= y /\ y <= 20000)
def stLeap (y : Int) : Bool := decide (y % 4 = 0 /\ (y % 100 ≠ 0 \/ y % 400 = 0))
def stDays (y m : Int) : Int := if m = 2 then (if stLeap y = true then 29 else 28) else if m = 4 \/ m = 6 \/ m = 9 \/ m = 11 then 30 else 31
def stFit (y m d h i s : Int) : Bool := decide ((1 <= y /\ y <= 9999 /\ 1 <= m /\ m <= 12) /\ (1 <= d /\ d <= stDays y m) /\ 0 <= h /\ h < 24 /\ 0 <= i /\ i < 60 /\ 0 <= s /\ s < 60)
def stYears (y : Int) : Int := (y - 1) * 365 + (y - 1) / 4 - (y - 1) / 100 + (y - 1) / 400
/-- the days ahead of a month in its year -/
def stAhead (y m : Int) : Int := if m <= 2 then 31 * (m - 1) else (153 * (m - 3) + 2) / 5 + 59 + (if stLeap y = true then 1 else 0)
def stSecs (y m d h i s : Int) : Int := -62135596800 + (stYears y + stAhead y m + (d - 1)) * 86400 + (h * 3600 + i * 60 + s)
def stI64 (t : Int) : Bool := decide (-9223372036854775808 <= t /\ t <= 9223372036854775807)
def stIn (t : Int) : Bool := decide (-62135596800 <= t /\ t <= 253402300799)
structure StD where
 d0 : Int
 d1 : Int
 d2 : Int
 d3 : Int
 d4 : Int
 d5 : Int
def stDated (t : Int) : StD :=
 let n := (t + 62135596800) / 86400
 let s := (t + 62135596800) % 86400
 let z := n + 306
 let doe := z % 146097
 let yoe := (doe - doe / 1460 + doe / 36524 - doe / 146096) / 365
 let doy := doe - (365 * yoe + yoe / 4 - yoe / 100)
 let mp := (5 * doy + 2) / 153
 let y := yoe + z / 146097 * 400
 let d := doy - (153 * mp + 2) / 5 + 1
 if 9 < mp then ⟨y + 1, mp - 9, d, s / 3600, s / 60 % 60, s % 60⟩ else ⟨y, mp + 3, d, s / 3600, s / 60 % 60, s % 60⟩
def stTwo (n : Int) : List Int := [IntKind.u8.wrap (IntKind.i64.wrap (48 + Int.tmod (IntKind.i64.wrap (Int.tdiv n 10)) 10)), IntKind.u8.wrap (IntKind.i64.wrap (48 + Int.tmod n 10))]
def stTextL (d : StD) : List Int := stTwo (d.d0 / 100) ++ stTwo d.d0 ++ stTwo d.d1 ++ stTwo d.d2 ++ stTwo d.d3 ++ stTwo d.d4 ++ stTwo d.d5 ++ [90]
def stText (t : Int) : ByteArray := if stIn t = true then strOf (stTextL (stDated t)) else strOf []
def stDig (a b : Int) : Int := if a < 48 \/ 57 < a \/ b < 48 \/ 57 < b then -100000 else 10 * (a - 48) + (b - 48)
def stDigits (s : ByteArray) : Int := stDig (bget s 0) (bget s 1)
def stRead (s : ByteArray) : Int × Int :=
 if s.size = 15 /\ bget s 14 = 90 then
  let y := stDig (bget s 2) (bget s 3) + 100 * stDig (bget s 0) (bget s 1)
  let m := stDig (bget s 4) (bget s 5)
  let d := stDig (bget s 6) (bget s 7)
  let h := stDig (bget s 8) (bget s 9)
  let i := stDig (bget s 10) (bget s 11)
  let c := stDig (bget s 12) (bget s 13)
  if stFit y m d h i c = true then (stSecs y m d h i c, 0) else (0, 1)
 else (0, 1)

end Go.Proofs.YtfkpjbbkdkcdcabDoorA

namespace Go.Proofs.YtfkpjbbkdkcdcabDoorA

/-! ### bytes -/
def byteB (x : Int) : Bool := decide (0 <= x /\ x <= 255)
noncomputable def bytesOk (b : List Int) : Bool := shut (decide (b.length <= 1000000) && b.all byteB)
noncomputable def bytesAll (b : List Int) : Bool := shut (b.all byteB)
noncomputable def lenOk (b : List Int) : Bool := shut (decide (b.length <= 100000000))
noncomputable def u32Ok (n : Int) : Bool := shut (decide (0 <= n /\ n <= 4294967295))
noncomputable def deepOk (n : Int) : Bool := shut (decide (0 <= n /\ n <= 1000))
def listSameC (a b : List Int) : Bool := decide (a = b)
noncomputable def listSame (a b : List Int) : Bool := shut (listSameC a b)
def listCmpC : List Int -> List Int -> Int
 | [], [] => 0
 | [], _ :: _ => -1
 | _ :: _, [] => 1
 | x :: a, y :: b => if x < y then -1 else if y < x then 1 else listCmpC a b
noncomputable def listCmp (a b : List Int) : Int := shut (listCmpC a b)
def bytesNumC (b : List Int) : Int := b.foldl (fun n x => n * 256 + x) 0
noncomputable def bytesNum (b : List Int) : Int := shut (bytesNumC b)

/-! ### tags, numbers, bits -/
def derBoxedC (tag : Int) : Bool := decide (tag = 48 \/ tag = 49 \/ (160 <= tag /\ tag <= 190))
noncomputable def derBoxed (tag : Int) : Bool := shut (derBoxedC tag)
def derKnownC (tag : Int) : Bool := decide (tag = 1 \/ tag = 2 \/ tag = 3 \/ tag = 4 \/ tag = 5 \/ tag = 6 \/ tag = 12 \/ tag = 24) || (derBoxedC tag || decide (128 <= tag /\ tag <= 158))
noncomputable def derKnown (tag : Int) : Bool := shut (derKnownC tag)
def derLenSizeC (n : Int) : Int := if n < 128 then 1 else if n < 256 then 2 else if n < 65536 then 3 else 4
noncomputable def derLenSize (n : Int) : Int := shut (derLenSizeC n)
def derNumberC : List Int -> Bool
 | [] => false
 | [_] => true
 | x :: y :: _ => !(decide (x = 0 /\ y < 128)) && !(decide (x = 255 /\ 128 <= y))
noncomputable def derNumber (b : List Int) : Bool := shut (derNumberC b)
def derStripC : List Int -> Bool
 | [] => false
 | [x] => decide (x = 0)
 | x :: y :: r => decide (x <= 7) && decide ((y :: r).getLast (by simp) % 2 ^ x.toNat = 0)
noncomputable def derStrip (b : List Int) : Bool := shut (derStripC b)

/-! ### characters -/
def u8At (l : List Int) (k : Nat) : Bool := match l[k]? with | some x => decide (128 <= x /\ x < 192) | none => false
def u8RuneC : List Int -> Int
 | [] => 0
 | c :: r =>
  if c < 128 then 1
  else if 194 <= c /\ c <= 223 /\ u8At r 0 = true then 2
  else if 224 <= c /\ c <= 239 /\ u8At r 0 = true /\ u8At r 1 = true /\ (c = 224 -> 160 <= r.headD 0) /\ (c = 237 -> r.headD 0 < 160) then 3
  else if 240 <= c /\ c <= 244 /\ u8At r 0 = true /\ u8At r 1 = true /\ u8At r 2 = true /\ (c = 240 -> 144 <= r.headD 0) /\ (c = 244 -> r.headD 0 < 144) then 4
  else 0
def u8ValidF : Nat -> List Int -> Bool
 | 0, _ => true
 | n + 1, l => if l = [] then true else if u8RuneC l = 0 then false else u8ValidF n (l.drop (u8RuneC l).toNat)
def u8ValidC (l : List Int) : Bool := u8ValidF l.length l
noncomputable def u8Valid (b : List Int) : Bool := shut (u8ValidC b)
def u8WordC (l : List Int) : Int :=
 ((l.getD 0 0).toNat ||| (l.getD 1 0).toNat * 2 ^ 8 ||| (l.getD 2 0).toNat * 2 ^ 16 ||| (l.getD 3 0).toNat * 2 ^ 24 ||| (l.getD 4 0).toNat * 2 ^ 32 ||| (l.getD 5 0).toNat * 2 ^ 40 ||| (l.getD 6 0).toNat * 2 ^ 48 ||| (l.getD 7 0).toNat * 2 ^ 56 : Nat)
noncomputable def u8Word (b : List Int) : Int := shut (u8WordC b)
def u8FirstC : List Int := List.replicate 128 240 ++ List.replicate 66 241 ++ List.replicate 30 2 ++ [19] ++ List.replicate 12 3 ++ [35] ++ List.replicate 2 3 ++ [52] ++ List.replicate 3 4 ++ [68] ++ List.replicate 11 241
def u8AcceptC : List CV := ([(128, 191), (160, 191), (128, 159), (144, 191), (128, 143)] ++ List.replicate 11 (0, 0) : List (Int × Int)).map fun p => .agg [.int .u8 p.1, .int .u8 p.2]
noncomputable def u8First : List Int := shut u8FirstC
noncomputable def u8Accept : List CV := shut u8AcceptC
/-! ### identifiers -/
def oidFitC : List Int -> Bool
 | x :: y :: r => decide (r.length <= 18) && (decide (x < 2 /\ y < 40) || decide (x = 2 /\ y <= 4294967215))
 | _ => false
noncomputable def oidFit (o : List Int) : Bool := shut (oidFitC o)
def oidFirstC (n : Int) : List Int := if n < 80 then [n / 40, n % 40] else [2, n - 80]
/-- the number that bytes begin with, and how many bytes it has -/
def oidNumG : Int -> Int -> List Int -> Int × Int
 | _, _, [] => (0, 0)
 | n, i, c :: r => if (i = 0 /\ c = 128) \/ 33554431 < n then (0, 0) else if c < 128 then (n * 128 + c, i + 1) else oidNumG (n * 128 + (c - 128)) (i + 1) r
def oidNumberC (b : List Int) : Int × Int := oidNumG 0 0 b
noncomputable def oidNumber (b : List Int) : Int × Int := shut (oidNumberC b)
def oidNumsF : Nat -> List Int -> List (Int × Bool)
 | 0, _ => []
 | n + 1, b => if b = [] then [] else if (oidNumberC b).2 = 0 then [((oidNumberC b).1, false)] else ((oidNumberC b).1, true) :: oidNumsF n (b.drop (oidNumberC b).2.toNat)
def oidNumsC (b : List Int) : List (Int × Bool) := oidNumsF b.length b
noncomputable def oidNums (b : List Int) : List (Int × Bool) := shut (oidNumsC b)
noncomputable def oidRows (l : List (Int × Bool)) : List (List CV) := shut (l.map fun p => [.int .u32 p.1, .bool p.2])
def oidGo : List (Int × Bool) -> List Int -> Option (List Int)
 | [], o => some o
 | (n, ok) :: r, o => if ok = false \/ 20 < o.length then none else if o = [] then oidGo r (oidFirstC n) else oidGo r (o ++ [n])
def oidParseC (b : List Int) : List Int × Int := match oidGo (oidNumsC b) [] with
 | some o => if oidFitC o = true then (o, 0) else ([], 5)
 | none => ([], 5)
noncomputable def oidParse (b : List Int) : List Int × Int := shut (oidParseC b)

/-! ### values -/
def derFitsC (tag : Int) (b : List Int) : Bool :=
 if tag = 1 then decide (b = [0] \/ b = [255])
 else if tag = 2 then derNumberC b
 else if tag = 3 then derStripC b
 else if tag = 5 then decide (b = [])
 else if tag = 6 then decide ((oidParseC b).2 = 0)
 else if tag = 12 then u8ValidC b
 else if tag = 24 then decide ((stRead (strOf b)).2 = 0)
 else true
noncomputable def derFits (tag : Int) (b : List Int) : Bool := shut (derFitsC tag b)
def rowsSortedC : List (List Int) -> Bool
 | a :: b :: r => decide (listCmpC a b <= 0) && rowsSortedC (b :: r)
 | _ => true
def rowB (l : List Int) : Bool := decide (l.length <= 1000000) && l.all byteB
def rowCV : CV -> Bool
 | .sli .u8 l => rowB l
 | _ => false
noncomputable def rowsOk (l : List CV) : Bool := shut (decide (l.length <= 1000000) && l.all rowCV)
noncomputable def rowsSorted (l : List CV) : Bool := shut (rowsSortedC (l.map cvSli))
noncomputable def rowsJoin (l : List CV) : List Int := shut (l.flatMap cvSli)
/-! ### are two the same? -/
def isNf : Nat -> List CV -> Bool
 | 0, _ => false
 | n + 1, [.int .i64 _, .sli .u8 b, .slg 3 l] => decide (b.length <= 100000000) && (decide (l.length <= 100000000) && l.all fun c => match c with | .agg x => isNf n x | _ => false)
 | _ + 1, _ => false
noncomputable def isNr (n : Nat) (l : List CV) : Bool := shut (isNf n l)
noncomputable def isN (l : List CV) : Bool := shut (@decide (∃ n, isNf n l = true) (Classical.propDecidable _))
noncomputable def ndSame (a b : List CV) : Bool := shut (@decide (a = b) (Classical.propDecidable _))
end Go.Proofs.YtfkpjbbkdkcdcabDoorA

namespace Go.Proofs.YtfkpjbbkdkcdcabDoorA

noncomputable def growOk (n : Int) : Bool := shut (decide (0 <= n /\ n <= 100000000))
noncomputable def noInts : List Int := shut []
noncomputable def leftOk (n : Int) : Bool := shut (decide (0 <= n /\ n <= 30000))
def derHeadC (tag n : Int) : List Int := tag :: (if n < 128 then [n] else if n < 256 then [129, n] else if n < 65536 then [130, n / 256, n % 256] else [131, n / 65536, n / 256 % 256, n % 256])
noncomputable def derHead (tag n : Int) : List Int := shut (derHeadC tag n)
noncomputable def headOk (tag n : Int) : Bool := shut (decide ((0 <= tag /\ tag <= 255) /\ 0 <= n /\ n < 16777216))
noncomputable def joinOk (l : List CV) : Bool := shut (decide (l.length <= 1000000) && (l.all rowCV && decide ((l.flatMap cvSli).length <= 1000000)))

/-! ### a value's places, by its rank -/
/-- a value of any size -/
def isTf : Nat -> List CV -> Bool
 | 0, _ => false
 | n + 1, [.int .i64 _, .sli .u8 b, .slg 3 l] => b.all byteB && l.all fun c => match c with | .agg x => isTf n x | _ => false
 | _ + 1, _ => false
noncomputable def isTr (n : Nat) (a : List CV) : Bool := shut (isTf n a)
noncomputable def isT (a : List CV) : Bool := shut (@decide (∃ n, isTf n a = true) (Classical.propDecidable _))
def kidsOf (f : List CV -> Int -> Int) : List CV -> Int -> Int
 | [], x => x
 | c :: r, x => if x < 0 then x else kidsOf f r (f (cell1 c) x)
def smallF : Nat -> List CV -> Int -> Int
 | n + 1, [.int .i64 _, .sli .u8 b, .slg 3 l], x => kidsOf (smallF n) l (x - 1 - min (b.length : Int) 1048576)
 | _, _, x => x
/-- how much there is -/
def bulkF : Nat -> List CV -> Nat
 | n + 1, [.int .i64 _, .sli .u8 b, .slg 3 l] => 1 + b.length + (l.map fun c => bulkF n (cell1 c)).sum
 | _, _ => 0
/-- can it be? -/
def okF : Nat -> Nat -> List CV -> Bool
 | n + 1, d + 1, [.int .i64 t, .sli .u8 b, .slg 3 l] => derKnownC t && (if derBoxedC t = true then decide (b = []) && l.all fun c => okF n d (cell1 c) else decide (l = []) && derFitsC t b)
 | _, _, _ => false
/-- its bytes, and whether the sets in it are in order -/
def bytesF : Nat -> List CV -> List Int × Bool
 | n + 1, [.int .i64 t, .sli .u8 b, .slg 3 l] =>
  if derBoxedC t = true then
   let ks := l.map fun c => bytesF n (cell1 c)
   let bs := ks.map (·.1)
   (derHeadC t bs.flatten.length ++ bs.flatten, ks.all (·.2) && (!(decide (t = 49)) || rowsSortedC bs))
  else (derHeadC t b.length ++ b, true)
 | _, _ => ([], false)
noncomputable def rkOf (a : List CV) : Nat := @dite _ (∃ n, isTf n a = true) (Classical.propDecidable _) (fun h => Classical.choose h) (fun _ => 0)
noncomputable def ndSmall (a : List CV) (left : Int) : Int := shut (smallF (rkOf a) a left)
noncomputable def ndSize (a : List CV) (deep : Int) : Int := shut (if okF (rkOf a) deep.toNat a = true then ((bytesF (rkOf a) a).1.length : Int) else -1)
noncomputable def isSr (n : Nat) (a : List CV) : Bool := shut (isTf n a && (decide (bulkF n a <= 30000)))
noncomputable def isS (a : List CV) : Bool := shut (@decide (∃ n, isTf n a = true /\ bulkF n a <= 30000) (Classical.propDecidable _))
noncomputable def isWr (n : Nat) (a : List CV) : Bool := shut (@decide (isTf n a = true /\ bulkF n a <= 30000 /\ ∃ d, okF n d a = true) (Classical.propDecidable _))
noncomputable def isW (a : List CV) : Bool := shut (@decide (∃ n, isTf n a = true /\ bulkF n a <= 30000 /\ ∃ d, okF n d a = true) (Classical.propDecidable _))
noncomputable def ndWrite (a : List CV) : List Int × Bool := shut (if (bytesF (rkOf a) a).2 = true then ((bytesF (rkOf a) a).1, true) else ([], false))
noncomputable def ndBytes (a : List CV) : List Int × Int := shut (if okF (rkOf a) 32 a = true /\ (bytesF (rkOf a) a).2 = true then ((bytesF (rkOf a) a).1, 0) else ([], 1))
noncomputable def ndFit (a : List CV) : Bool := shut (decide (okF (rkOf a) 32 a = true /\ (bytesF (rkOf a) a).2 = true))
end Go.Proofs.YtfkpjbbkdkcdcabDoorA

namespace Go.Proofs.YtfkpjbbkdkcdcabDoorA

def u32B (n : Int) : Bool := decide (0 <= n /\ n <= 4294967295)
noncomputable def u32sOk (o : List Int) : Bool := shut (decide (o.length <= 1000) && o.all u32B)
noncomputable def u64Ok (n : Int) : Bool := shut (decide (0 <= n /\ n <= 18446744073709551615))
/-! ### bytes -/
def gHi : Nat -> Int -> List Int
 | 0, _ => []
 | f + 1, n => if n = 0 then [] else gHi f (n / 128) ++ [128 + n % 128]
def oidGroupsC (n : Int) : List Int := gHi 5 (n / 128) ++ [n % 128]
noncomputable def oidGroups (n : Int) : List Int := shut (oidGroupsC n)
def oidBytesC (o : List Int) : List Int := if oidFitC o = true then (match o with | x :: y :: r => oidGroupsC (40 * x + y) ++ r.flatMap oidGroupsC | _ => []) else []
noncomputable def oidBytes (o : List Int) : List Int := shut (oidBytesC o)

/-! ### texts -/
end Go.Proofs.YtfkpjbbkdkcdcabDoorA

namespace Go.Proofs.YtfkpjbbkdkcdcabDoorA
noncomputable def noKids : List CV := shut []
noncomputable def num8 (b : List Int) : Bool := shut (decide (b.length <= 8) && b.all byteB)
def vLeC (n : Int) : List Int := [n % 256, n / 256 % 256, n / 65536 % 256, n / 16777216 % 256, n / 4294967296 % 256, n / 1099511627776 % 256, n / 281474976710656 % 256, n / 72057594037927936 % 256]
noncomputable def vLe (n : Int) : List Int := shut (vLeC n)
noncomputable def vBe (n : Int) : List Int := shut (vLeC n).reverse
noncomputable def vRev (l : List Int) : List Int := shut l.reverse
noncomputable def revOk (l : List Int) : Bool := shut (decide (l.length = 8))
/-- a number's bytes without those that say nothing -/
def trimF : List Int -> List Int
 | a :: b :: r => if (a = 0 /\ b < 128) \/ (a = 255 /\ 128 <= b) then trimF (b :: r) else a :: b :: r
 | l => l
def vIntC (n : Int) : List Int := trimF (vLeC (n % 18446744073709551616)).reverse
noncomputable def vInt (n : Int) : List Int := shut (vIntC n)
noncomputable def vSmall (a : List CV) : Bool := shut (decide (0 <= ndSmall a 2000))
def twosC (b : List Int) : Int := if 128 <= b.headD 0 then bytesNumC b - 256 ^ b.length else bytesNumC b
def vNumberC (b : List Int) : Int × Int := if 8 < b.length then (0, 8) else (twosC b, 0)
noncomputable def vNumber (b : List Int) : Int × Int := shut (vNumberC b)
/-- what is wrong with a value of no parts, of a tag -/
def vErrC (g t : Int) (b : List Int) (k : List CV) : Int := if t ≠ g then 4 else if k.length ≠ 0 \/ derFitsC g b = false then 5 else 0
noncomputable def vIntOf (t : Int) (b : List Int) (k : List CV) : Int × Int := shut (if vErrC 2 t b k = 0 then vNumberC b else (0, vErrC 2 t b k))
noncomputable def vTimeOf (t : Int) (b : List Int) (k : List CV) : Int × Int := shut (if vErrC 24 t b k = 0 then stRead (strOf b) else (0, vErrC 24 t b k))
noncomputable def vUtfOf (t : Int) (b : List Int) (k : List CV) : ByteArray × Int := shut (if vErrC 12 t b k = 0 then (strOf b, 0) else (strOf [], vErrC 12 t b k))
noncomputable def vIdOf (t : Int) (b : List Int) (k : List CV) : List Int × Int := shut (if vErrC 6 t b k = 0 then oidParse b else ([], vErrC 6 t b k))
noncomputable def vBytesOf (t : Int) (b : List Int) (k : List CV) : List Int × Int := shut (if vErrC 4 t b k = 0 then (b, 0) else ([], vErrC 4 t b k))
/-! ### sets -/
def keyC (c : CV) : List Int := cvSli ((cell1 c).getD 3 .nili)
def insRev (x : CV) : List CV -> List CV
 | [] => [x]
 | y :: r => if listCmpC (keyC x) (keyC y) < 0 then y :: insRev x r else x :: y :: r
def vSortC (l : List CV) : List CV := (l.foldl (fun acc x => insRev x acc) []).reverse
noncomputable def vSort (l : List CV) : List CV := shut (vSortC l)
noncomputable def srtOk (m : Nat) (l : List CV) : Bool := shut (@decide (m = l.length /\ l.length <= 15 /\ ∀ c ∈ l, ∃ t b k w, c = .agg [.int .i64 t, .sli .u8 b, .slg 3 k, .sli .u8 w] /\ bytesOk w = true) (Classical.propDecidable _))
noncomputable def withBytes (c : CV) : CV := .agg (cell1 c ++ [.sli .u8 (ndBytes (cell1 c)).1])
noncomputable def vSetC (l : List CV) : Int × List CV × Int := if l.all (fun c => decide ((ndBytes (cell1 c)).2 = 0)) = true then (49, (vSortC (l.map withBytes)).map (fun c => .agg ((cell1 c).take 3)), 0) else (0, [], 1)
noncomputable def vSet (l : List CV) : Int × List CV × Int := shut (vSetC l)
noncomputable def setOk (l : List CV) : Bool := shut (@decide (l.length <= 15 /\ ∀ c ∈ l, ∃ t b k, c = .agg [.int .i64 t, .sli .u8 b, .slg 3 k] /\ isS [.int .i64 t, .sli .u8 b, .slg 3 k] = true) (Classical.propDecidable _))
/-! ### what is made -/
def vMadeC (g : Int) (b : List Int) : Int × List Int × Int := if derFitsC g b = true then (g, b, 0) else (0, [], 5)
noncomputable def vMade (g : Int) (b : List Int) : Int × List Int × Int := shut (vMadeC g b)
noncomputable def madeOk (g : Int) (b : List Int) : Bool := shut (decide ((g = 12 \/ g = 6 \/ g = 24) /\ b.length <= 2000) && b.all byteB)
noncomputable def utfOk (s : ByteArray) : Bool := shut (decide (s.size <= 2000))
noncomputable def idOk (o : List Int) : Bool := shut (decide (o.length <= 50) && o.all u32B)
noncomputable def u32Any (o : List Int) : Bool := shut (o.all u32B)
def vKidsC (g t : Int) (b : List Int) (k : List CV) : List CV × Int := if t ≠ g \/ derBoxedC g = false then ([], 4) else if b.length ≠ 0 then ([], 5) else (k, 0)
noncomputable def vKids (g t : Int) (b : List Int) (k : List CV) : List CV × Int := shut (vKidsC g t b k)
noncomputable def lenOkC (l : List CV) : Bool := shut (decide (l.length <= 100000000))
noncomputable def isTs (l : List CV) : Bool := shut (@decide (∀ c ∈ l, ∃ a, c = .agg a /\ isT a = true) (Classical.propDecidable _))
noncomputable def vFew (l : List CV) : Bool := shut (decide (l.length <= 10) && l.all fun c => vSmall (cell1 c))
end Go.Proofs.YtfkpjbbkdkcdcabDoorA

set_option linter.unusedSimpArgs false
set_option maxRecDepth 100000
namespace Go.Proofs.YtfkpjbbkdkcdcabDoorA
noncomputable def glVal : Nat -> Option CV := fun g => cond (Nat.beq g 1) (some (.aggi 256 .u8 u8First)) (cond (Nat.beq g 2) (some (.agga 16 2 u8Accept)) none)
noncomputable def SDigits : List V -> List Obj -> Tree := fun xs obs => match xs, obs with
 | [.cl (.str s)], [] => .leaf (.ret [.cl (.int .i64 (stDigits s))] [])
 | _, _ => .fail
noncomputable def preDigits : List V -> List Obj -> Bool := fun xs obs => match xs, obs with
 | [.cl (.str s)], [] => decide (2 <= s.size)
 | _, _ => false
noncomputable def SDLeap : List V -> List Obj -> Tree := fun xs obs => match xs, obs with
 | [.cl (.aggi 6 .i64 [d0, d1, d2, d3, d4, d5])], [] => .leaf (.ret [.cl (.bool (stLeap d0))] [])
 | _, _ => .fail
noncomputable def preDLeap : List V -> List Obj -> Bool := fun xs obs => match xs, obs with
 | [.cl (.aggi 6 .i64 [d0, d1, d2, d3, d4, d5])], [] => stOk d0
 | _, _ => false
noncomputable def SDDays : List V -> List Obj -> Tree := fun xs obs => match xs, obs with
 | [.cl (.aggi 6 .i64 [d0, d1, d2, d3, d4, d5])], [] => .leaf (.ret [.cl (.int .i64 (stDays d0 d1))] [])
 | _, _ => .fail
noncomputable def preDDays : List V -> List Obj -> Bool := fun xs obs => match xs, obs with
 | [.cl (.aggi 6 .i64 [d0, d1, d2, d3, d4, d5])], [] => stOk d0
 | _, _ => false
noncomputable def SDFit : List V -> List Obj -> Tree := fun xs obs => match xs, obs with
 | [.cl (.aggi 6 .i64 [d0, d1, d2, d3, d4, d5])], [] => .leaf (.ret [.cl (.bool (stFit d0 d1 d2 d3 d4 d5))] [])
 | _, _ => .fail
noncomputable def preDFit : List V -> List Obj -> Bool := fun xs obs => match xs, obs with
 | [.cl (.aggi 6 .i64 [d0, d1, d2, d3, d4, d5])], [] => true
 | _, _ => false
noncomputable def SDSecs : List V -> List Obj -> Tree := fun xs obs => match xs, obs with
 | [.cl (.aggi 6 .i64 [d0, d1, d2, d3, d4, d5])], [] => .leaf (.ret [.cl (.int .i64 (stSecs d0 d1 d2 d3 d4 d5))] [])
 | _, _ => .fail
noncomputable def preDSecs : List V -> List Obj -> Bool := fun xs obs => match xs, obs with
 | [.cl (.aggi 6 .i64 [d0, d1, d2, d3, d4, d5])], [] => stFit d0 d1 d2 d3 d4 d5
 | _, _ => false
noncomputable def SDated : List V -> List Obj -> Tree := fun xs obs => match xs, obs with
 | [.cl (.int .i64 t)], [] => .leaf (.ret [.cl (.aggi 6 .i64 [(stDated t).d0, (stDated t).d1, (stDated t).d2, (stDated t).d3, (stDated t).d4, (stDated t).d5])] [])
 | _, _ => .fail
noncomputable def preDated : List V -> List Obj -> Bool := fun xs obs => match xs, obs with
 | [.cl (.int .i64 t)], [] => stIn t
 | _, _ => false
noncomputable def SPut : List V -> List Obj -> Tree := fun xs obs => match xs, obs with
 | [.nils, .cl (.int .i64 n)], [] => .leaf (.ret [.ref 0 0 ((stTwo n).length) true 1] [some ⟨.ints .u8 (stTwo n), false⟩])
 | [.ref 0 0 len true 1, .cl (.int .i64 n)], [⟨.ints .u8 l, false⟩] => .leaf (.ret [.ref 1 0 ((l ++ stTwo n).length) true 1] [none, some ⟨.ints .u8 (l ++ stTwo n), false⟩])
 | _, _ => .fail
noncomputable def prePut : List V -> List Obj -> Bool := fun xs obs => match xs, obs with
 | [.nils, .cl (.int .i64 n)], [] => true
 | [.ref 0 0 len true 1, .cl (.int .i64 n)], [⟨.ints .u8 l, false⟩] => decide (l.length < 1000)
 | _, _ => false
noncomputable def SSText : List V -> List Obj -> Tree := fun xs obs => match xs, obs with
 | [.cl (.int .i64 t)], [] => .leaf (.ret [.cl (.str (stText t))] [])
 | _, _ => .fail
noncomputable def preSText : List V -> List Obj -> Bool := fun xs obs => match xs, obs with
 | [.cl (.int .i64 t)], [] => stI64 t
 | _, _ => false
noncomputable def SSRead : List V -> List Obj -> Tree := fun xs obs => match xs, obs with
 | [.cl (.str s)], [] => .leaf (.ret [.cl (.int .i64 ((stRead s).1)), .cl (.int .i64 ((stRead s).2))] [])
 | _, _ => .fail
noncomputable def preSRead : List V -> List Obj -> Bool := fun xs obs => match xs, obs with
 | [.cl (.str s)], [] => true
 | _, _ => false
noncomputable def SDBoxed : List V -> List Obj -> Tree := fun xs obs => match xs, obs with
 | [.cl (.int .i64 tag)], [] => .leaf (.ret [.cl (.bool (derBoxed tag))] [])
 | _, _ => .fail
noncomputable def preDBoxed : List V -> List Obj -> Bool := fun xs obs => match xs, obs with
 | [.cl (.int .i64 tag)], [] => true
 | _, _ => false
noncomputable def SDKnown : List V -> List Obj -> Tree := fun xs obs => match xs, obs with
 | [.cl (.int .i64 tag)], [] => .leaf (.ret [.cl (.bool (derKnown tag))] [])
 | _, _ => .fail
noncomputable def preDKnown : List V -> List Obj -> Bool := fun xs obs => match xs, obs with
 | [.cl (.int .i64 tag)], [] => true
 | _, _ => false
noncomputable def SDLenSize : List V -> List Obj -> Tree := fun xs obs => match xs, obs with
 | [.cl (.int .i64 n)], [] => .leaf (.ret [.cl (.int .i64 (derLenSize n))] [])
 | _, _ => .fail
noncomputable def preDLenSize : List V -> List Obj -> Bool := fun xs obs => match xs, obs with
 | [.cl (.int .i64 n)], [] => true
 | _, _ => false
noncomputable def SDNumber : List V -> List Obj -> Tree := fun xs obs => match xs, obs with
 | [.cl (.sli .u8 b)], [] => .leaf (.ret [.cl (.bool (derNumber b))] [])
 | _, _ => .fail
noncomputable def preDNumber : List V -> List Obj -> Bool := fun xs obs => match xs, obs with
 | [.cl (.sli .u8 b)], [] => bytesOk b
 | _, _ => false
noncomputable def SDStrip : List V -> List Obj -> Tree := fun xs obs => match xs, obs with
 | [.cl (.sli .u8 b)], [] => .leaf (.ret [.cl (.bool (derStrip b))] [])
 | _, _ => .fail
noncomputable def preDStrip : List V -> List Obj -> Bool := fun xs obs => match xs, obs with
 | [.cl (.sli .u8 b)], [] => bytesOk b
 | _, _ => false
noncomputable def SOFit : List V -> List Obj -> Tree := fun xs obs => match xs, obs with
 | [.cl (.sli .u32 o)], [] => .leaf (.ret [.cl (.bool (oidFit o))] [])
 | _, _ => .fail
noncomputable def preOFit : List V -> List Obj -> Bool := fun xs obs => match xs, obs with
 | [.cl (.sli .u32 o)], [] => true
 | _, _ => false
noncomputable def SONumber : List V -> List Obj -> Tree := fun xs obs => match xs, obs with
 | [.cl (.sli .u8 b)], [] => .leaf (.ret [.cl (.int .u32 ((oidNumber b).1)), .cl (.int .i64 ((oidNumber b).2))] [])
 | _, _ => .fail
noncomputable def preONumber : List V -> List Obj -> Bool := fun xs obs => match xs, obs with
 | [.cl (.sli .u8 b)], [] => bytesOk b
 | _, _ => false
noncomputable def SONumbers : List V -> List Obj -> Tree := fun xs obs => match xs, obs with
 | [.cl (.sli .u8 b)], [] => .leaf (.ret [.fn (.func 61) [] [.ptr 0 0 0]] [some ⟨.var [.cl (.sli .u8 b)], false⟩])
 | _, _ => .fail
noncomputable def preONumbers : List V -> List Obj -> Bool := fun xs obs => match xs, obs with
 | [.cl (.sli .u8 b)], [] => true
 | _, _ => false
noncomputable def SOParse : List V -> List Obj -> Tree := fun xs obs => match xs, obs with
 | [.cl (.sli .u8 b)], [] => .leaf (.ret [.cl (.sli .u32 ((oidParse b).1)), .cl (.int .i64 ((oidParse b).2))] [])
 | _, _ => .fail
noncomputable def preOParse : List V -> List Obj -> Bool := fun xs obs => match xs, obs with
 | [.cl (.sli .u8 b)], [] => bytesOk b
 | _, _ => false
noncomputable def SR1Same : List V -> List Obj -> Tree := fun xs obs => match xs, obs with
 | [.cl (.sli .u8 a), .cl (.sli .u8 b)], [] => .leaf (.ret [.cl (.bool (listSame a b))] [])
 | _, _ => .fail
noncomputable def preR1Same : List V -> List Obj -> Bool := fun xs obs => match xs, obs with
 | [.cl (.sli .u8 a), .cl (.sli .u8 b)], [] => lenOk a
 | _, _ => false
noncomputable def SSClone : List V -> List Obj -> Tree := fun xs obs => match xs, obs with
 | [.cl (.sli .u8 b)], [] => .leaf (.ret [.cl (.sli .u8 b)] [])
 | _, _ => .fail
noncomputable def preSClone : List V -> List Obj -> Bool := fun xs obs => match xs, obs with
 | [.cl (.sli .u8 b)], [] => lenOk b
 | _, _ => false
noncomputable def SUWord : List V -> List Obj -> Tree := fun xs obs => match xs, obs with
 | [.cl (.sli .u8 b)], [] => .leaf (.ret [.cl (.int .u64 (u8Word b))] [])
 | _, _ => .fail
noncomputable def preUWord : List V -> List Obj -> Bool := fun xs obs => match xs, obs with
 | [.cl (.sli .u8 b)], [] => bytesOk b && decide (8 <= b.length)
 | _, _ => false
noncomputable def SUValid : List V -> List Obj -> Tree := fun xs obs => match xs, obs with
 | [.cl (.sli .u8 b)], [] => .leaf (.ret [.cl (.bool (u8Valid b))] [])
 | _, _ => .fail
noncomputable def preUValid : List V -> List Obj -> Bool := fun xs obs => match xs, obs with
 | [.cl (.sli .u8 b)], [] => bytesOk b
 | _, _ => false
noncomputable def SRSame : List V -> List Obj -> Tree := fun xs obs => match xs, obs with
 | [.cl (.agg a), .cl (.agg b)], [] => .leaf (.ret [.cl (.bool (ndSame a b))] [])
 | _, _ => .fail
noncomputable def preRSame : List V -> List Obj -> Bool := fun xs obs => match xs, obs with
 | [.cl (.agg a), .cl (.agg b)], [] => isN a && isN b
 | _, _ => false
noncomputable def preRRSame (rk : Nat) : List V -> List Obj -> Bool := fun xs obs => match xs, obs with
 | [.cl (.agg a), .cl (.agg b)], [] => isNr rk a && isN b
 | _, _ => false
noncomputable def SDFits : List V -> List Obj -> Tree := fun xs obs => match xs, obs with
 | [.cl (.int .i64 tag), .cl (.sli .u8 b)], [] => .leaf (.ret [.cl (.bool (derFits tag b))] [])
 | _, _ => .fail
noncomputable def preDFits : List V -> List Obj -> Bool := fun xs obs => match xs, obs with
 | [.cl (.int .i64 tag), .cl (.sli .u8 b)], [] => bytesOk b
 | _, _ => false
noncomputable def SBACompare : List V -> List Obj -> Tree := fun xs obs => match xs, obs with
 | [.cl (.sli .u8 a), .cl (.sli .u8 b)], [] => .leaf (.ret [.cl (.int .i64 (listCmp a b))] [])
 | _, _ => .fail
noncomputable def preBACompare : List V -> List Obj -> Bool := fun xs obs => match xs, obs with
 | [.cl (.sli .u8 a), .cl (.sli .u8 b)], [] => bytesOk a && bytesOk b
 | _, _ => false
noncomputable def SBCompare : List V -> List Obj -> Tree := fun xs obs => match xs, obs with
 | [.cl (.sli .u8 a), .cl (.sli .u8 b)], [] => .leaf (.ret [.cl (.int .i64 (listCmp a b))] [])
 | _, _ => .fail
noncomputable def preBCompare : List V -> List Obj -> Bool := fun xs obs => match xs, obs with
 | [.cl (.sli .u8 a), .cl (.sli .u8 b)], [] => bytesOk a && bytesOk b
 | _, _ => false
noncomputable def SOLess : List V -> List Obj -> Tree := fun xs obs => match xs, obs with
 | [.cl (.sli .u8 a), .cl (.sli .u8 b)], [] => .leaf (.ret [.cl (.bool (decide (listCmp a b <= 0)))] [])
 | _, _ => .fail
noncomputable def preOLess : List V -> List Obj -> Bool := fun xs obs => match xs, obs with
 | [.cl (.sli .u8 a), .cl (.sli .u8 b)], [] => bytesOk a && bytesOk b
 | _, _ => false
noncomputable def SOSteps : List V -> List Obj -> Tree := fun xs obs => match xs, obs with
 | [.cl (.slg 1 l), .cl (.fn (.func 77) [] [])], [] => .leaf (.ret [.cl (.bool (rowsSorted l))] [])
 | _, _ => .fail
noncomputable def preOSteps : List V -> List Obj -> Bool := fun xs obs => match xs, obs with
 | [.cl (.slg 1 l), .cl (.fn (.func 77) [] [])], [] => rowsOk l
 | _, _ => false
noncomputable def SOSorted : List V -> List Obj -> Tree := fun xs obs => match xs, obs with
 | [.cl (.slg 1 l)], [] => .leaf (.ret [.cl (.bool (rowsSorted l))] [])
 | _, _ => .fail
noncomputable def preOSorted : List V -> List Obj -> Bool := fun xs obs => match xs, obs with
 | [.cl (.slg 1 l)], [] => rowsOk l
 | _, _ => false
noncomputable def SRSmall : List V -> List Obj -> Tree := fun xs obs => match xs, obs with
 | [.cl (.agg a), .cl (.int .i64 left)], [] => .leaf (.ret [.cl (.int .i64 (ndSmall a left))] [])
 | _, _ => .fail
noncomputable def preRSmall : List V -> List Obj -> Bool := fun xs obs => match xs, obs with
 | [.cl (.agg a), .cl (.int .i64 left)], [] => isT a && leftOk left
 | _, _ => false
noncomputable def preRRSmall (rk : Nat) : List V -> List Obj -> Bool := fun xs obs => match xs, obs with
 | [.cl (.agg a), .cl (.int .i64 left)], [] => isTr rk a && leftOk left
 | _, _ => false
noncomputable def SDSize : List V -> List Obj -> Tree := fun xs obs => match xs, obs with
 | [.cl (.agg a), .cl (.int .i64 deep)], [] => .leaf (.ret [.cl (.int .i64 (ndSize a deep))] [])
 | _, _ => .fail
noncomputable def preDSize : List V -> List Obj -> Bool := fun xs obs => match xs, obs with
 | [.cl (.agg a), .cl (.int .i64 deep)], [] => isS a && deepOk deep
 | _, _ => false
noncomputable def preRDSize (rk : Nat) : List V -> List Obj -> Bool := fun xs obs => match xs, obs with
 | [.cl (.agg a), .cl (.int .i64 deep)], [] => isSr rk a && deepOk deep
 | _, _ => false
noncomputable def SDPut : List V -> List Obj -> Tree := fun xs obs => match xs, obs with
 | [.nils, .cl (.int .i64 tag), .cl (.int .i64 n)], [] => .leaf (.ret [.ref 0 0 ((derHead tag n).length) true 1] [some ⟨.ints .u8 (derHead tag n), false⟩])
 | _, _ => .fail
noncomputable def preDPut : List V -> List Obj -> Bool := fun xs obs => match xs, obs with
 | [.nils, .cl (.int .i64 tag), .cl (.int .i64 n)], [] => headOk tag n
 | _, _ => false
noncomputable def SSConcat : List V -> List Obj -> Tree := fun xs obs => match xs, obs with
 | [.cl (.slg 1 l)], [] => .leaf (.ret [.cl (.sli .u8 (rowsJoin l))] [])
 | _, _ => .fail
noncomputable def preSConcat : List V -> List Obj -> Bool := fun xs obs => match xs, obs with
 | [.cl (.slg 1 l)], [] => joinOk l
 | _, _ => false
noncomputable def SDWrite : List V -> List Obj -> Tree := fun xs obs => match xs, obs with
 | [.cl (.agg a)], [] => .leaf (.ret [.cl (.sli .u8 ((ndWrite a).1)), .cl (.bool ((ndWrite a).2))] [])
 | _, _ => .fail
noncomputable def preDWrite : List V -> List Obj -> Bool := fun xs obs => match xs, obs with
 | [.cl (.agg a)], [] => isW a
 | _, _ => false
noncomputable def preRDWrite (rk : Nat) : List V -> List Obj -> Bool := fun xs obs => match xs, obs with
 | [.cl (.agg a)], [] => isWr rk a
 | _, _ => false
noncomputable def SDBytes : List V -> List Obj -> Tree := fun xs obs => match xs, obs with
 | [.cl (.agg a)], [] => .leaf (.ret [.cl (.sli .u8 ((ndBytes a).1)), .cl (.int .i64 ((ndBytes a).2))] [])
 | _, _ => .fail
noncomputable def preDBytes : List V -> List Obj -> Bool := fun xs obs => match xs, obs with
 | [.cl (.agg a)], [] => isS a
 | _, _ => false
noncomputable def SDFit_ : List V -> List Obj -> Tree := fun xs obs => match xs, obs with
 | [.cl (.agg a)], [] => .leaf (.ret [.cl (.bool (ndFit a))] [])
 | _, _ => .fail
noncomputable def preDFit_ : List V -> List Obj -> Bool := fun xs obs => match xs, obs with
 | [.cl (.agg a)], [] => isS a
 | _, _ => false
noncomputable def SSGrow : List V -> List Obj -> Tree := fun xs obs => match xs, obs with
 | [.nils, .cl (.int .i64 n)], [] => .leaf (.ret [.ref 0 0 0 true 1] [some ⟨.ints .u8 noInts, false⟩])
 | _, _ => .fail
noncomputable def preSGrow : List V -> List Obj -> Bool := fun xs obs => match xs, obs with
 | [.nils, .cl (.int .i64 n)], [] => growOk n
 | _, _ => false
noncomputable def SR2Same : List V -> List Obj -> Tree := fun xs obs => match xs, obs with
 | [.cl (.sli .u32 a), .cl (.sli .u32 b)], [] => .leaf (.ret [.cl (.bool (listSame a b))] [])
 | _, _ => .fail
noncomputable def preR2Same : List V -> List Obj -> Bool := fun xs obs => match xs, obs with
 | [.cl (.sli .u32 a), .cl (.sli .u32 b)], [] => lenOk a
 | _, _ => false
noncomputable def SOPut : List V -> List Obj -> Tree := fun xs obs => match xs, obs with
 | [.nils, .cl (.int .u32 n)], [] => .leaf (.ret [.ref 0 0 ((oidGroups n).length) true 1] [some ⟨.ints .u8 (oidGroups n), false⟩])
 | [.ref 0 0 m true 1, .cl (.int .u32 n)], [⟨.ints .u8 l, false⟩] => .leaf (.ret [.ref 1 0 ((l ++ oidGroups n).length) true 1] [none, some ⟨.ints .u8 (l ++ oidGroups n), false⟩])
 | _, _ => .fail
noncomputable def preOPut : List V -> List Obj -> Bool := fun xs obs => match xs, obs with
 | [.nils, .cl (.int .u32 n)], [] => u32Ok n
 | [.ref 0 0 m true 1, .cl (.int .u32 n)], [⟨.ints .u8 l, false⟩] => u32Ok n && lenOk l
 | _, _ => false
noncomputable def SOBytes : List V -> List Obj -> Tree := fun xs obs => match xs, obs with
 | [.cl (.sli .u32 o)], [] => .leaf (.ret [.cl (.sli .u8 (oidBytes o))] [])
 | _, _ => .fail
noncomputable def preOBytes : List V -> List Obj -> Bool := fun xs obs => match xs, obs with
 | [.cl (.sli .u32 o)], [] => u32sOk o
 | _, _ => false
noncomputable def SVBNum : List V -> List Obj -> Tree := fun xs obs => match xs, obs with
 | [.cl (.sli .u8 b)], [] => .leaf (.ret [.cl (.int .u64 (bytesNum b))] [])
 | _, _ => .fail
noncomputable def preVBNum : List V -> List Obj -> Bool := fun xs obs => match xs, obs with
 | [.cl (.sli .u8 b)], [] => num8 b
 | _, _ => false
noncomputable def SVLe : List V -> List Obj -> Tree := fun xs obs => match xs, obs with
 | [.cl (.int .u64 n), .cl (.int .i64 8)], [] => .leaf (.ret [.ref 0 0 8 true 1] [some ⟨.ints .u8 (vLe n), false⟩])
 | _, _ => .fail
noncomputable def preVLe : List V -> List Obj -> Bool := fun xs obs => match xs, obs with
 | [.cl (.int .u64 n), .cl (.int .i64 8)], [] => u64Ok n
 | _, _ => false
noncomputable def SVReverse : List V -> List Obj -> Tree := fun xs obs => match xs, obs with
 | [.ref 0 0 8 true 1], [⟨.ints .u8 l, false⟩] => .leaf (.ret [] [some ⟨.ints .u8 (vRev l), false⟩])
 | _, _ => .fail
noncomputable def preVReverse : List V -> List Obj -> Bool := fun xs obs => match xs, obs with
 | [.ref 0 0 8 true 1], [⟨.ints .u8 l, false⟩] => revOk l
 | _, _ => false
noncomputable def SVBe : List V -> List Obj -> Tree := fun xs obs => match xs, obs with
 | [.cl (.int .u64 n), .cl (.int .i64 8)], [] => .leaf (.ret [.cl (.sli .u8 (vBe n))] [])
 | _, _ => .fail
noncomputable def preVBe : List V -> List Obj -> Bool := fun xs obs => match xs, obs with
 | [.cl (.int .u64 n), .cl (.int .i64 8)], [] => u64Ok n
 | _, _ => false
noncomputable def SVInt : List V -> List Obj -> Tree := fun xs obs => match xs, obs with
 | [.cl (.int .i64 n)], [] => .leaf (.ret [.cl (.agg [.int .i64 2, .sli .u8 (vInt n), .slg 3 noKids])] [])
 | _, _ => .fail
noncomputable def preVInt : List V -> List Obj -> Bool := fun xs obs => match xs, obs with
 | [.cl (.int .i64 n)], [] => stI64 n
 | _, _ => false
noncomputable def SVNull : List V -> List Obj -> Tree := fun xs obs => match xs, obs with
 | [], [] => .leaf (.ret [.cl (.agg [.int .i64 5, .sli .u8 [], .slg 3 []])] [])
 | _, _ => .fail
noncomputable def preVNull : List V -> List Obj -> Bool := fun xs obs => match xs, obs with
 | [], [] => true
 | _, _ => false
noncomputable def SVSmall : List V -> List Obj -> Tree := fun xs obs => match xs, obs with
 | [.cl (.agg [.int .i64 t, .sli .u8 b, .slg 3 k])], [] => .leaf (.ret [.cl (.bool (vSmall [.int .i64 t, .sli .u8 b, .slg 3 k]))] [])
 | _, _ => .fail
noncomputable def preVSmall : List V -> List Obj -> Bool := fun xs obs => match xs, obs with
 | [.cl (.agg [.int .i64 t, .sli .u8 b, .slg 3 k])], [] => isT [.int .i64 t, .sli .u8 b, .slg 3 k]
 | _, _ => false
noncomputable def SVNumber : List V -> List Obj -> Tree := fun xs obs => match xs, obs with
 | [.cl (.sli .u8 b)], [] => .leaf (.ret [.cl (.int .i64 ((vNumber b).1)), .cl (.int .i64 ((vNumber b).2))] [])
 | _, _ => .fail
noncomputable def preVNumber : List V -> List Obj -> Bool := fun xs obs => match xs, obs with
 | [.cl (.sli .u8 b)], [] => bytesOk b
 | _, _ => false
noncomputable def SVUtf1 : List V -> List Obj -> Tree := fun xs obs => match xs, obs with
 | [.cl (.sli .u8 b)], [] => .leaf (.ret [.cl (.str (strOf b)), .cl (.int .i64 0)] [])
 | _, _ => .fail
noncomputable def preVUtf1 : List V -> List Obj -> Bool := fun xs obs => match xs, obs with
 | [.cl (.sli .u8 b)], [] => true
 | _, _ => false
noncomputable def SVTime1 : List V -> List Obj -> Tree := fun xs obs => match xs, obs with
 | [.cl (.sli .u8 b)], [] => .leaf (.ret [.cl (.int .i64 ((stRead (strOf b)).1)), .cl (.int .i64 ((stRead (strOf b)).2))] [])
 | _, _ => .fail
noncomputable def preVTime1 : List V -> List Obj -> Bool := fun xs obs => match xs, obs with
 | [.cl (.sli .u8 b)], [] => true
 | _, _ => false
noncomputable def SVToldI : List V -> List Obj -> Tree := fun xs obs => match xs, obs with
 | [.cl (.agg [.int .i64 t, .sli .u8 b, .slg 3 k]), .cl (.int .i64 2), .cl (.fn (.func 26) [] [])], [] => .leaf (.ret [.cl (.int .i64 ((vIntOf t b k).1)), .cl (.int .i64 ((vIntOf t b k).2))] [])
 | [.cl (.agg [.int .i64 t, .sli .u8 b, .slg 3 k]), .cl (.int .i64 24), .cl (.fn (.func 38) [] [])], [] => .leaf (.ret [.cl (.int .i64 ((vTimeOf t b k).1)), .cl (.int .i64 ((vTimeOf t b k).2))] [])
 | _, _ => .fail
noncomputable def preVToldI : List V -> List Obj -> Bool := fun xs obs => match xs, obs with
 | [.cl (.agg [.int .i64 t, .sli .u8 b, .slg 3 k]), .cl (.int .i64 2), .cl (.fn (.func 26) [] [])], [] => isS [.int .i64 t, .sli .u8 b, .slg 3 k]
 | [.cl (.agg [.int .i64 t, .sli .u8 b, .slg 3 k]), .cl (.int .i64 24), .cl (.fn (.func 38) [] [])], [] => isS [.int .i64 t, .sli .u8 b, .slg 3 k]
 | _, _ => false
noncomputable def SVToldS : List V -> List Obj -> Tree := fun xs obs => match xs, obs with
 | [.cl (.agg [.int .i64 t, .sli .u8 b, .slg 3 k]), .cl (.int .i64 12), .cl (.fn (.func 33) [] [])], [] => .leaf (.ret [.cl (.str ((vUtfOf t b k).1)), .cl (.int .i64 ((vUtfOf t b k).2))] [])
 | _, _ => .fail
noncomputable def preVToldS : List V -> List Obj -> Bool := fun xs obs => match xs, obs with
 | [.cl (.agg [.int .i64 t, .sli .u8 b, .slg 3 k]), .cl (.int .i64 12), .cl (.fn (.func 33) [] [])], [] => isS [.int .i64 t, .sli .u8 b, .slg 3 k]
 | _, _ => false
noncomputable def SVToldO : List V -> List Obj -> Tree := fun xs obs => match xs, obs with
 | [.cl (.agg [.int .i64 t, .sli .u8 b, .slg 3 k]), .cl (.int .i64 6), .cl (.fn (.func 36) [] [])], [] => .leaf (.ret [.cl (.sli .u32 ((vIdOf t b k).1)), .cl (.int .i64 ((vIdOf t b k).2))] [])
 | _, _ => .fail
noncomputable def preVToldO : List V -> List Obj -> Bool := fun xs obs => match xs, obs with
 | [.cl (.agg [.int .i64 t, .sli .u8 b, .slg 3 k]), .cl (.int .i64 6), .cl (.fn (.func 36) [] [])], [] => isS [.int .i64 t, .sli .u8 b, .slg 3 k]
 | _, _ => false
noncomputable def SVIntOf : List V -> List Obj -> Tree := fun xs obs => match xs, obs with
 | [.cl (.agg [.int .i64 t, .sli .u8 b, .slg 3 k])], [] => .leaf (.ret [.cl (.int .i64 ((vIntOf t b k).1)), .cl (.int .i64 ((vIntOf t b k).2))] [])
 | _, _ => .fail
noncomputable def preVIntOf : List V -> List Obj -> Bool := fun xs obs => match xs, obs with
 | [.cl (.agg [.int .i64 t, .sli .u8 b, .slg 3 k])], [] => isS [.int .i64 t, .sli .u8 b, .slg 3 k]
 | _, _ => false
noncomputable def SVBytesOf : List V -> List Obj -> Tree := fun xs obs => match xs, obs with
 | [.cl (.agg [.int .i64 t, .sli .u8 b, .slg 3 k])], [] => .leaf (.ret [.cl (.sli .u8 ((vBytesOf t b k).1)), .cl (.int .i64 ((vBytesOf t b k).2))] [])
 | _, _ => .fail
noncomputable def preVBytesOf : List V -> List Obj -> Bool := fun xs obs => match xs, obs with
 | [.cl (.agg [.int .i64 t, .sli .u8 b, .slg 3 k])], [] => isS [.int .i64 t, .sli .u8 b, .slg 3 k]
 | _, _ => false
noncomputable def SVUtf8Of : List V -> List Obj -> Tree := fun xs obs => match xs, obs with
 | [.cl (.agg [.int .i64 t, .sli .u8 b, .slg 3 k])], [] => .leaf (.ret [.cl (.str ((vUtfOf t b k).1)), .cl (.int .i64 ((vUtfOf t b k).2))] [])
 | _, _ => .fail
noncomputable def preVUtf8Of : List V -> List Obj -> Bool := fun xs obs => match xs, obs with
 | [.cl (.agg [.int .i64 t, .sli .u8 b, .slg 3 k])], [] => isS [.int .i64 t, .sli .u8 b, .slg 3 k]
 | _, _ => false
noncomputable def SVIdOf : List V -> List Obj -> Tree := fun xs obs => match xs, obs with
 | [.cl (.agg [.int .i64 t, .sli .u8 b, .slg 3 k])], [] => .leaf (.ret [.cl (.sli .u32 ((vIdOf t b k).1)), .cl (.int .i64 ((vIdOf t b k).2))] [])
 | _, _ => .fail
noncomputable def preVIdOf : List V -> List Obj -> Bool := fun xs obs => match xs, obs with
 | [.cl (.agg [.int .i64 t, .sli .u8 b, .slg 3 k])], [] => isS [.int .i64 t, .sli .u8 b, .slg 3 k]
 | _, _ => false
noncomputable def SVTimeOf : List V -> List Obj -> Tree := fun xs obs => match xs, obs with
 | [.cl (.agg [.int .i64 t, .sli .u8 b, .slg 3 k])], [] => .leaf (.ret [.cl (.int .i64 ((vTimeOf t b k).1)), .cl (.int .i64 ((vTimeOf t b k).2))] [])
 | _, _ => .fail
noncomputable def preVTimeOf : List V -> List Obj -> Bool := fun xs obs => match xs, obs with
 | [.cl (.agg [.int .i64 t, .sli .u8 b, .slg 3 k])], [] => isS [.int .i64 t, .sli .u8 b, .slg 3 k]
 | _, _ => false
noncomputable def SVCmp : List V -> List Obj -> Tree := fun xs obs => match xs, obs with
 | [.cl (.agg [.int .i64 ta, .sli .u8 ba, .slg 3 ka, .sli .u8 wa]), .cl (.agg [.int .i64 tb, .sli .u8 bb, .slg 3 kb, .sli .u8 wb])], [] => .leaf (.ret [.cl (.int .i64 (listCmp wa wb))] [])
 | _, _ => .fail
noncomputable def preVCmp : List V -> List Obj -> Bool := fun xs obs => match xs, obs with
 | [.cl (.agg [.int .i64 ta, .sli .u8 ba, .slg 3 ka, .sli .u8 wa]), .cl (.agg [.int .i64 tb, .sli .u8 bb, .slg 3 kb, .sli .u8 wb])], [] => bytesOk wa && bytesOk wb
 | _, _ => false
noncomputable def SVMerge : List V -> List Obj -> Tree := fun xs obs => match xs, obs with
 | [.ref 0 0 m true 4, .cl (.int .i64 a), .cl (.int .i64 mid), .cl (.int .i64 e), .cl (.fn (.func 43) [] [])], [⟨.gen 4 l, false⟩] => .leaf (.ret [] [some ⟨.gen 4 l, false⟩])
 | _, _ => .fail
noncomputable def preVMerge : List V -> List Obj -> Bool := fun xs obs => match xs, obs with
 | [.ref 0 0 m true 4, .cl (.int .i64 a), .cl (.int .i64 mid), .cl (.int .i64 e), .cl (.fn (.func 43) [] [])], [⟨.gen 4 l, false⟩] => false
 | _, _ => false
noncomputable def SVInsert : List V -> List Obj -> Tree := fun xs obs => match xs, obs with
 | [.ref 0 0 m true 4, .cl (.int .i64 a), .cl (.int .i64 n), .cl (.fn (.func 43) [] [])], [⟨.gen 4 l, false⟩] => .leaf (.ret [] [some ⟨.gen 4 (vSort l), false⟩])
 | _, _ => .fail
noncomputable def preVInsert : List V -> List Obj -> Bool := fun xs obs => match xs, obs with
 | [.ref 0 0 m true 4, .cl (.int .i64 a), .cl (.int .i64 n), .cl (.fn (.func 43) [] [])], [⟨.gen 4 l, false⟩] => srtOk m l && decide (a = 0 /\ n = (m : Int))
 | _, _ => false
noncomputable def SVStable : List V -> List Obj -> Tree := fun xs obs => match xs, obs with
 | [.ref 0 0 m true 4, .cl (.int .i64 n), .cl (.fn (.func 43) [] [])], [⟨.gen 4 l, false⟩] => .leaf (.ret [] [some ⟨.gen 4 (vSort l), false⟩])
 | _, _ => .fail
noncomputable def preVStable : List V -> List Obj -> Bool := fun xs obs => match xs, obs with
 | [.ref 0 0 m true 4, .cl (.int .i64 n), .cl (.fn (.func 43) [] [])], [⟨.gen 4 l, false⟩] => srtOk m l && decide (n = (m : Int))
 | _, _ => false
noncomputable def SVSort : List V -> List Obj -> Tree := fun xs obs => match xs, obs with
 | [.ref 0 0 m true 4, .cl (.fn (.func 43) [] [])], [⟨.gen 4 l, false⟩] => .leaf (.ret [] [some ⟨.gen 4 (vSort l), false⟩])
 | _, _ => .fail
noncomputable def preVSort : List V -> List Obj -> Bool := fun xs obs => match xs, obs with
 | [.ref 0 0 m true 4, .cl (.fn (.func 43) [] [])], [⟨.gen 4 l, false⟩] => srtOk m l
 | _, _ => false
noncomputable def SVSet : List V -> List Obj -> Tree := fun xs obs => match xs, obs with
 | [.cl (.slg 3 l)], [] => .leaf (.ret [.cl (.agg [.int .i64 ((vSet l).1), .sli .u8 noInts, .slg 3 ((vSet l).2.1)]), .cl (.int .i64 ((vSet l).2.2))] [])
 | _, _ => .fail
noncomputable def preVSet : List V -> List Obj -> Bool := fun xs obs => match xs, obs with
 | [.cl (.slg 3 l)], [] => setOk l
 | _, _ => false
noncomputable def SVMade : List V -> List Obj -> Tree := fun xs obs => match xs, obs with
 | [.cl (.int .i64 g), .cl (.sli .u8 b)], [] => .leaf (.ret [.cl (.agg [.int .i64 ((vMade g b).1), .sli .u8 ((vMade g b).2.1), .slg 3 noKids]), .cl (.int .i64 ((vMade g b).2.2))] [])
 | _, _ => .fail
noncomputable def preVMade : List V -> List Obj -> Bool := fun xs obs => match xs, obs with
 | [.cl (.int .i64 g), .cl (.sli .u8 b)], [] => madeOk g b
 | _, _ => false
noncomputable def SVUtf8 : List V -> List Obj -> Tree := fun xs obs => match xs, obs with
 | [.cl (.str s)], [] => .leaf (.ret [.cl (.agg [.int .i64 ((vMade 12 (bytesOf s)).1), .sli .u8 ((vMade 12 (bytesOf s)).2.1), .slg 3 noKids]), .cl (.int .i64 ((vMade 12 (bytesOf s)).2.2))] [])
 | _, _ => .fail
noncomputable def preVUtf8 : List V -> List Obj -> Bool := fun xs obs => match xs, obs with
 | [.cl (.str s)], [] => utfOk s
 | _, _ => false
noncomputable def SVId : List V -> List Obj -> Tree := fun xs obs => match xs, obs with
 | [.cl (.sli .u32 o)], [] => .leaf (.ret [.cl (.agg [.int .i64 ((vMade 6 (oidBytes o)).1), .sli .u8 ((vMade 6 (oidBytes o)).2.1), .slg 3 noKids]), .cl (.int .i64 ((vMade 6 (oidBytes o)).2.2))] [])
 | _, _ => .fail
noncomputable def preVId : List V -> List Obj -> Bool := fun xs obs => match xs, obs with
 | [.cl (.sli .u32 o)], [] => idOk o
 | _, _ => false
noncomputable def SVTime : List V -> List Obj -> Tree := fun xs obs => match xs, obs with
 | [.cl (.int .i64 t)], [] => .leaf (.ret [.cl (.agg [.int .i64 ((vMade 24 (bytesOf (stText t))).1), .sli .u8 ((vMade 24 (bytesOf (stText t))).2.1), .slg 3 noKids]), .cl (.int .i64 ((vMade 24 (bytesOf (stText t))).2.2))] [])
 | _, _ => .fail
noncomputable def preVTime : List V -> List Obj -> Bool := fun xs obs => match xs, obs with
 | [.cl (.int .i64 t)], [] => stI64 t
 | _, _ => false
noncomputable def SVBytes : List V -> List Obj -> Tree := fun xs obs => match xs, obs with
 | [.cl (.sli .u8 b)], [] => .leaf (.ret [.cl (.agg [.int .i64 4, .sli .u8 b, .slg 3 noKids])] [])
 | _, _ => .fail
noncomputable def preVBytes : List V -> List Obj -> Bool := fun xs obs => match xs, obs with
 | [.cl (.sli .u8 b)], [] => lenOk b
 | _, _ => false
noncomputable def SVClone : List V -> List Obj -> Tree := fun xs obs => match xs, obs with
 | [.cl (.slg 3 l)], [] => .leaf (.ret [.cl (.slg 3 l)] [])
 | _, _ => .fail
noncomputable def preVClone : List V -> List Obj -> Bool := fun xs obs => match xs, obs with
 | [.cl (.slg 3 l)], [] => lenOkC l
 | _, _ => false
noncomputable def SVSeq : List V -> List Obj -> Tree := fun xs obs => match xs, obs with
 | [.cl (.slg 3 l)], [] => .leaf (.ret [.cl (.agg [.int .i64 48, .sli .u8 noInts, .slg 3 l])] [])
 | _, _ => .fail
noncomputable def preVSeq : List V -> List Obj -> Bool := fun xs obs => match xs, obs with
 | [.cl (.slg 3 l)], [] => lenOkC l
 | _, _ => false
noncomputable def SVKids : List V -> List Obj -> Tree := fun xs obs => match xs, obs with
 | [.cl (.agg [.int .i64 t, .sli .u8 b, .slg 3 k]), .cl (.int .i64 g)], [] => .leaf (.ret [.cl (.slg 3 ((vKids g t b k).1)), .cl (.int .i64 ((vKids g t b k).2))] [])
 | _, _ => .fail
noncomputable def preVKids : List V -> List Obj -> Bool := fun xs obs => match xs, obs with
 | [.cl (.agg [.int .i64 t, .sli .u8 b, .slg 3 k]), .cl (.int .i64 g)], [] => lenOkC k
 | _, _ => false
noncomputable def SVRSeq : List V -> List Obj -> Tree := fun xs obs => match xs, obs with
 | [.cl (.slg 3 l)], [] => .leaf (.ret [.cl (.agg [.int .i64 48, .sli .u8 noInts, .slg 3 l])] [])
 | _, _ => .fail
noncomputable def preVRSeq : List V -> List Obj -> Bool := fun xs obs => match xs, obs with
 | [.cl (.slg 3 l)], [] => lenOkC l
 | _, _ => false
noncomputable def SVFew : List V -> List Obj -> Tree := fun xs obs => match xs, obs with
 | [.cl (.slg 3 l)], [] => .leaf (.ret [.cl (.bool (vFew l))] [])
 | _, _ => .fail
noncomputable def preVFew : List V -> List Obj -> Bool := fun xs obs => match xs, obs with
 | [.cl (.slg 3 l)], [] => isTs l
 | _, _ => false
noncomputable def SVAwake : List V -> List Obj -> Tree := fun xs obs => match xs, obs with
 | [], [] => .leaf (.ret [.cl (.bool true)] [])
 | _, _ => .fail
noncomputable def preVAwake : List V -> List Obj -> Bool := fun xs obs => match xs, obs with
 | [], [] => true
 | _, _ => false
noncomputable def SVLBack : List V -> List Obj -> Tree := fun xs obs => match xs, obs with
 | [.cl (.int .i64 n), .cl (.sli .u8 b), .cl (.sli .u32 o), .cl (.int .i64 t), .cl (.slg 3 l)], [] => .leaf (.ret [.cl (.bool true)] [])
 | _, _ => .fail
noncomputable def preVLBack : List V -> List Obj -> Bool := fun xs obs => match xs, obs with
 | [.cl (.int .i64 n), .cl (.sli .u8 b), .cl (.sli .u32 o), .cl (.int .i64 t), .cl (.slg 3 l)], [] => stI64 n && (bytesAll b && (u32Any o && (stI64 t && isTs l)))
 | _, _ => false
noncomputable def QONums : List V -> List Obj -> Option (List (List CV)) := fun xs obs => match xs, obs with
 | [.ptr 0 0 0], [⟨.var [.cl (.sli .u8 b)], false⟩] => some (oidRows (oidNums b))
 | _, _ => none
noncomputable def preONums : List V -> List Obj -> Bool := fun xs obs => match xs, obs with
 | [.ptr 0 0 0], [⟨.var [.cl (.sli .u8 b)], false⟩] => bytesOk b
 | _, _ => false
def okONums : List CV -> Bool := fun x => match x with
 | [.int .u32 _, .bool _] => true
 | _ => false
theorem okONums_of {x : List CV} (h : okONums x = true) : ∃ e1 e2, x = [.int .u32 e1, .bool e2] := by
 unfold okONums at h
 split at h
 ·exact ⟨_, _, rfl⟩
 ·cases h
end Go.Proofs.YtfkpjbbkdkcdcabDoorA
