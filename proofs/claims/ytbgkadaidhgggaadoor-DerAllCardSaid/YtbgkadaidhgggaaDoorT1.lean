/-
 Times as plain functions: what the stamp layer computes. Conditions: none.
-/
import Derived.Test.YtbgkadaidhgggaaDoorK3
import Derived.Test.YtbgkadaidhgggaaDoorProg
set_option linter.unusedVariables false
namespace Go.Proofs.YtbgkadaidhgggaaDoorA

def stOk (y : Int) : Bool := decide (1 <= y /\ y <= 20000)
def qex (y : Int) : Bool := decide (y % 4 = 0 /\ (y % 100 ≠ 0 \/ y % 400 = 0))
def qew (y m : Int) : Int := if m = 2 then (if qex y = true then 29 else 28) else if m = 4 \/ m = 6 \/ m = 9 \/ m = 11 then 30 else 31
def qlk (y m d h i s : Int) : Bool := decide ((1 <= y /\ y <= 9999 /\ 1 <= m /\ m <= 12) /\ (1 <= d /\ d <= qew y m) /\ 0 <= h /\ h < 24 /\ 0 <= i /\ i < 60 /\ 0 <= s /\ s < 60)
def qib (y m : Int) : Int := if 1 <= y /\ y <= 9999 /\ 1 <= m /\ m <= 12 then qew y m else 0
def qbl (y : Int) : Int := (y - 1) * 365 + (y - 1) / 4 - (y - 1) / 100 + (y - 1) / 400
/-- the days ahead of a month in its year -/
def qbh (y m : Int) : Int := if m <= 2 then 31 * (m - 1) else (153 * (m - 3) + 2) / 5 + 59 + (if qex y = true then 1 else 0)
def qk8 (y m d h i s : Int) : Int := -62135596800 + (qbl y + qbh y m + (d - 1)) * 86400 + (h * 3600 + i * 60 + s)
def stI64 (t : Int) : Bool := decide (-9223372036854775808 <= t /\ t <= 9223372036854775807)
def stIn (t : Int) : Bool := decide (-62135596800 <= t /\ t <= 253402300799)
structure StD where
 d0 : Int
 d1 : Int
 d2 : Int
 d3 : Int
 d4 : Int
 d5 : Int
def qey (t : Int) : StD :=
 let n := (t + 62135596800) / 86400
 let s := (t + 62135596800) % 86400
 let z := n + 306
 let doe := z % 146097
 let yoe := (doe - doe / 1460 + doe / 36524 - doe / 146096) / 365
 let doy := doe - (365 * yoe + yoe / 4 - yoe / 100)
 let mp := (5 * doy + 2) / 153
 let y := yoe + z / 146097 * 400
 let d := doy - (153 * mp + 2) / 5 + 1
 if 9 < mp then ⟨y + 1, mp - 9, d, s / 3600, s / 60 % 60, s % 60⟩ else ⟨y, mp + 3, d, s / 3600, s / 60 % 60, s % 60⟩
def stTwo (n : Int) : List Int := [IntKind.u8.wrap (IntKind.i64.wrap (48 + Int.tmod (IntKind.i64.wrap (Int.tdiv n 10)) 10)), IntKind.u8.wrap (IntKind.i64.wrap (48 + Int.tmod n 10))]
def stTextL (d : StD) : List Int := stTwo (d.d0 / 100) ++ stTwo d.d0 ++ stTwo d.d1 ++ stTwo d.d2 ++ stTwo d.d3 ++ stTwo d.d4 ++ stTwo d.d5 ++ [90]
def stText (t : Int) : ByteArray := if stIn t = true then qc8 (stTextL (qey t)) else qc8 []
def qor (a b : Int) : Int := if a < 48 \/ 57 < a \/ b < 48 \/ 57 < b then -100000 else 10 * (a - 48) + (b - 48)
def qeb (s : ByteArray) : Int := qor (bget s 0) (bget s 1)
def stNum : List Int -> Int -> Int
 | [], n => n
 | c :: r, n => if c < 48 \/ 57 < c then -1 else stNum r (n * 10 + (c - 48))
def qcx (s : ByteArray) : Int := stNum (bytesOf s) 0
def qom (s : ByteArray) : Int × Int :=
 if s.size = 15 /\ bget s 14 = 90 then
  let y := qor (bget s 2) (bget s 3) + 100 * qor (bget s 0) (bget s 1)
  let m := qor (bget s 4) (bget s 5)
  let d := qor (bget s 6) (bget s 7)
  let h := qor (bget s 8) (bget s 9)
  let i := qor (bget s 10) (bget s 11)
  let c := qor (bget s 12) (bget s 13)
  if qlk y m d h i c = true then (qk8 y m d h i c, 0) else (0, 1)
 else (0, 1)

end Go.Proofs.YtbgkadaidhgggaaDoorA

namespace Go.Proofs.YtbgkadaidhgggaaDoorA

abbrev LI := List Int
abbrev LC := List CV
abbrev OO := Option Out
abbrev KT := Ex -> St -> Option Out
abbrev qI (y : Int) : V := .cl (.int .i64 y)
abbrev qU (y : Int) : V := .cl (.int .u8 y)
abbrev qW (y : Int) : V := .cl (.int .u64 y)
abbrev qD (y : Int) : V := .cl (.int .u32 y)
abbrev qB (b : Bool) : V := .cl (.bool b)
abbrev qS (y : List Int) : V := .cl (.sli .u8 y)
abbrev qG (n : Nat) (y : List CV) : V := .cl (.slg n y)
/-! ### bytes -/
def byteB (x : Int) : Bool := decide (0 <= x /\ x <= 255)
noncomputable def qac (b : List Int) : Bool := shut (decide (b.length <= 1000000) && b.all byteB)
noncomputable def qfr (b : List Int) : Bool := shut (b.all byteB)
noncomputable def qid (b : List Int) : Bool := shut (decide (b.length <= 100000000))
noncomputable def u32Ok (n : Int) : Bool := shut (decide (0 <= n /\ n <= 4294967295))
noncomputable def qb9 (n : Int) : Bool := shut (decide (0 <= n /\ n <= 1000))
def qhm (a b : List Int) : Bool := decide (a = b)
noncomputable def qb3 (a b : List Int) : Bool := shut (qhm a b)
def qbp : List Int -> List Int -> Int
 | [], [] => 0
 | [], _ :: _ => -1
 | _ :: _, [] => 1
 | x :: a, y :: b => if x < y then -1 else if y < x then 1 else qbp a b
noncomputable def qfl (a b : List Int) : Int := shut (qbp a b)
noncomputable def qof (a b : List Int) : Bool := shut (decide (qbp a b < 0))
def qbc (b : List Int) : Int := b.foldl (fun n x => n * 256 + x) 0
noncomputable def bytesNum (b : List Int) : Int := shut (qbc b)

/-! ### tags, numbers, bits -/
def qa4 (tag : Int) : Bool := decide (tag = 48 \/ tag = 49 \/ (160 <= tag /\ tag <= 190))
noncomputable def qbe (tag : Int) : Bool := shut (qa4 tag)
def qa9 (tag : Int) : Bool := decide (tag = 1 \/ tag = 2 \/ tag = 3 \/ tag = 4 \/ tag = 5 \/ tag = 6 \/ tag = 12 \/ tag = 24) || (qa4 tag || decide (128 <= tag /\ tag <= 158))
noncomputable def qcv (tag : Int) : Bool := shut (qa9 tag)
def qat (n : Int) : Int := if n < 128 then 1 else if n < 256 then 2 else if n < 65536 then 3 else 4
noncomputable def qbs (n : Int) : Int := shut (qat n)
def qne : List Int -> Bool
 | [] => false
 | [_] => true
 | x :: y :: _ => !(decide (x = 0 /\ y < 128)) && !(decide (x = 255 /\ 128 <= y))
noncomputable def qel (b : List Int) : Bool := shut (qne b)
def qqp : List Int -> Bool
 | [] => false
 | [x] => decide (x = 0)
 | x :: y :: r => decide (x <= 7) && decide ((y :: r).getLast (by simp) % 2 ^ x.toNat = 0)
noncomputable def qhh (b : List Int) : Bool := shut (qqp b)

/-! ### characters -/
def u8At (l : List Int) (k : Nat) : Bool := match l[k]? with | some x => decide (128 <= x /\ x < 192) | none => false
noncomputable def u8Cont (b : List Int) (i : Int) : Bool := shut (u8At b i.toNat)
def qcp : List Int -> Int
 | [] => 0
 | c :: r =>
  if c < 128 then 1
  else if 194 <= c /\ c <= 223 /\ u8At r 0 = true then 2
  else if 224 <= c /\ c <= 239 /\ u8At r 0 = true /\ u8At r 1 = true /\ (c = 224 -> 160 <= r.headD 0) /\ (c = 237 -> r.headD 0 < 160) then 3
  else if 240 <= c /\ c <= 244 /\ u8At r 0 = true /\ u8At r 1 = true /\ u8At r 2 = true /\ (c = 240 -> 144 <= r.headD 0) /\ (c = 244 -> r.headD 0 < 144) then 4
  else 0
noncomputable def u8Rune (b : List Int) (i : Int) : Int := shut (qcp (b.drop i.toNat))
def qg5 : Nat -> List Int -> Bool
 | 0, _ => true
 | n + 1, l => if l = [] then true else if qcp l = 0 then false else qg5 n (l.drop (qcp l).toNat)
def qb2 (l : List Int) : Bool := qg5 l.length l
noncomputable def u8Valid (b : List Int) : Bool := shut (qb2 b)
def u8WordC (l : List Int) : Int :=
 ((l.getD 0 0).toNat ||| (l.getD 1 0).toNat * 2 ^ 8 ||| (l.getD 2 0).toNat * 2 ^ 16 ||| (l.getD 3 0).toNat * 2 ^ 24 ||| (l.getD 4 0).toNat * 2 ^ 32 ||| (l.getD 5 0).toNat * 2 ^ 40 ||| (l.getD 6 0).toNat * 2 ^ 48 ||| (l.getD 7 0).toNat * 2 ^ 56 : Nat)
noncomputable def u8Word (b : List Int) : Int := shut (u8WordC b)
def qfs : List Int := List.replicate 128 240 ++ List.replicate 66 241 ++ List.replicate 30 2 ++ [19] ++ List.replicate 12 3 ++ [35] ++ List.replicate 2 3 ++ [52] ++ List.replicate 3 4 ++ [68] ++ List.replicate 11 241
def qj9 : List CV := ([(128, 191), (160, 191), (128, 159), (144, 191), (128, 143)] ++ List.replicate 11 (0, 0) : List (Int × Int)).map fun p => .agg [.int .u8 p.1, .int .u8 p.2]
noncomputable def u8First : List Int := shut qfs
noncomputable def u8Accept : List CV := shut qj9
noncomputable def qca : Nat -> Option CV := fun g => cond (Nat.beq g 0) (some (.aggi 256 .u8 u8First)) (cond (Nat.beq g 1) (some (.agga 16 2 u8Accept)) none)

/-! ### identifiers -/
def qfh : List Int -> Bool
 | x :: y :: r => decide (r.length <= 18) && (decide (x < 2 /\ y < 40) || decide (x = 2 /\ y <= 4294967215))
 | _ => false
noncomputable def qn1 (o : List Int) : Bool := shut (qfh o)
def qda (n : Int) : List Int := if n < 80 then [n / 40, n % 40] else [2, n - 80]
noncomputable def qe0 (n : Int) : List Int := shut (qda n)
/-- the number that bytes begin with, and how many bytes it has -/
def qbw : Int -> Int -> List Int -> Int × Int
 | _, _, [] => (0, 0)
 | n, i, c :: r => if (i = 0 /\ c = 128) \/ 33554431 < n then (0, 0) else if c < 128 then (n * 128 + c, i + 1) else qbw (n * 128 + (c - 128)) (i + 1) r
def qas (b : List Int) : Int × Int := qbw 0 0 b
noncomputable def qeo (b : List Int) : Int × Int := shut (qas b)
def qdb : Nat -> List Int -> List (Int × Bool)
 | 0, _ => []
 | n + 1, b => if b = [] then [] else if (qas b).2 = 0 then [((qas b).1, false)] else ((qas b).1, true) :: qdb n (b.drop (qas b).2.toNat)
def qhx (b : List Int) : List (Int × Bool) := qdb b.length b
noncomputable def oidNums (b : List Int) : List (Int × Bool) := shut (qhx b)
noncomputable def qq3 (l : List (Int × Bool)) : List (List CV) := shut (l.map fun p => [.int .u32 p.1, .bool p.2])
def oidGo : List (Int × Bool) -> List Int -> Option (List Int)
 | [], o => some o
 | (n, ok) :: r, o => if ok = false \/ 20 < o.length then none else if o = [] then oidGo r (qda n) else oidGo r (o ++ [n])
def qms (b : List Int) : List Int × Int := match oidGo (qhx b) [] with
 | some o => if qfh o = true then (o, 0) else ([], 5)
 | none => ([], 5)
noncomputable def qdu (b : List Int) : List Int × Int := shut (qms b)

/-! ### values -/
def qcq (tag : Int) (b : List Int) : Bool :=
 if tag = 1 then decide (b = [0] \/ b = [255])
 else if tag = 2 then qne b
 else if tag = 3 then qqp b
 else if tag = 5 then decide (b = [])
 else if tag = 6 then decide ((qms b).2 = 0)
 else if tag = 12 then qb2 b
 else if tag = 24 then decide ((qom (qc8 b)).2 = 0)
 else true
noncomputable def qc4 (tag : Int) (b : List Int) : Bool := shut (qcq tag b)
/-- a length, and how many bytes it has; 0: none -/
def qab : List Int -> Int × Int
 | [] => (0, 0)
 | c :: t => if c < 128 then (c, 1) else if c = 128 \/ 131 < c \/ (t.length : Int) < c - 128 then (0, 0)
  else if t.headD 0 = 0 \/ qbc (t.take (c - 128).toNat) < 128 then (0, 0) else (qbc (t.take (c - 128).toNat), 1 + (c - 128))
noncomputable def qmo (b : List Int) : Int × Int := shut (qab b)
noncomputable def qpm (l : List Int) : Bool := shut (!(decide ((qab l).2 = 0)))
noncomputable def qdj (l : List Int) : Int × List Int := shut ((qab l).1, l.drop (qab l).2.toNat)
def qir : List Int -> List Int
 | [] => []
 | c :: t => if c = 128 \/ 131 < c then t else t.drop (c - 128).toNat
noncomputable def qfd (l : List Int) : List Int := shut (qir l)
abbrev Nd := Int × List Int × List CV
def nd0 : Nd := (0, [], [])
def ndCV (x : Nd) : CV := .agg [.int .i64 x.1, .sli .u8 x.2.1, .slg 3 x.2.2]
def qa1 : List (List Int) -> Bool
 | a :: b :: r => decide (qbp a b <= 0) && qa1 (b :: r)
 | _ => true
def rowB (l : List Int) : Bool := decide (l.length <= 1000000) && l.all byteB
def rowCV : CV -> Bool
 | .sli .u8 l => rowB l
 | _ => false
noncomputable def qf0 (l : List CV) : Bool := shut (decide (l.length <= 1000000) && l.all rowCV)
noncomputable def qbg (l : List CV) : Bool := shut (qa1 (l.map qee))
noncomputable def qcs (l : List CV) : List Int := shut (l.flatMap qee)
/-- the values that bytes are, one behind the other: an error, the values, their bytes -/
def qbq (f : List Int -> Int × Nd × Int) : Nat -> List Int -> Int × List Nd × List (List Int)
 | 0, _ => (0, [], [])
 | m + 1, b => if b = [] then (0, [], []) else
  if (f b).1 = 0 then
   let p := qbq f m (b.drop (f b).2.2.toNat)
   (p.1, (f b).2.1 :: p.2.1, b.take (f b).2.2.toNat :: p.2.2)
  else ((f b).1, [], [])
/-- the value that bytes begin with: an error, the value, how many bytes it has -/
def qax : Nat -> List Int -> Int × Nd × Int
 | 0, _ => (3, nd0, 0)
 | n + 1, b => match b with
  | [] => (1, nd0, 0)
  | t :: r => if qa9 t = false then (4, nd0, 0)
   else if (qab r).2 = 0 \/ (r.length : Int) - (qab r).2 < (qab r).1 then (1, nd0, 0)
   else
    let inside := (r.drop (qab r).2.toNat).take (qab r).1.toNat
    let used := 1 + (qab r).2 + (qab r).1
    if qa4 t = false then (if qcq t inside = true then (0, (t, inside, []), used) else (5, nd0, 0))
    else
     let p := qbq (qax n) inside.length inside
     if p.1 = 0 then (if t = 49 /\ qa1 p.2.2 = false then (6, nd0, 0) else (0, (t, [], p.2.1.map ndCV), used)) else (p.1, nd0, 0)
noncomputable def qej (b : List Int) (d : Int) : Nd × Int × Int := shut (let p := qax d.toNat b; if p.1 = 0 then (p.2.1, p.2.2, 0) else (nd0, 0, p.1))
def qhw (b : List Int) : Nd × Int := let p := qax 32 b; if p.1 = 0 then (if p.2.2 < b.length then (nd0, 7) else (p.2.1, 0)) else (nd0, p.1)
noncomputable def qar (b : List Int) : Nd × Int := shut (qhw b)
/-- where a reader stands -/
def qh8 (l : List Int) (d : Int) : List Int :=
 if d <= 0 then l else match l with
  | [] => []
  | t :: r => if qa9 t = false then r
   else if (qab r).2 = 0 then qir r
   else if (r.length : Int) - (qab r).2 < (qab r).1 then r.drop (qab r).2.toNat
   else r.drop ((qab r).2 + (qab r).1).toNat
noncomputable def qk9 (l : List Int) (d : Int) : Int × Nd × List Int := shut ((qax d.toNat l).1, (qax d.toNat l).2.1, qh8 l d)
noncomputable def qa6 (tag : Int) (b : List Int) (d : Int) : Int × Nd := shut (
 let p := qbq (qax (d - 1).toNat) b.length b
 if p.1 = 0 then (if tag = 49 /\ qa1 p.2.2 = false then (6, nd0) else (0, (tag, [], p.2.1.map ndCV))) else (p.1, nd0))

/-! ### are two the same? -/
def isNf : Nat -> List CV -> Bool
 | 0, _ => false
 | n + 1, [.int .i64 _, .sli .u8 b, .slg 3 l] => decide (b.length <= 100000000) && (decide (l.length <= 100000000) && l.all fun c => match c with | .agg x => isNf n x | _ => false)
 | _ + 1, _ => false
def isNk (n : Nat) : CV -> Bool
 | .agg x => isNf n x
 | _ => false
noncomputable def isNr (n : Nat) (l : List CV) : Bool := shut (isNf n l)
noncomputable def isN (l : List CV) : Bool := shut (@decide (∃ n, isNf n l = true) (Classical.propDecidable _))
noncomputable def isNsr (n : Nat) (l : List CV) : Bool := shut (decide (l.length <= 100000000) && l.all (isNk n))
noncomputable def isNs (l : List CV) : Bool := shut (@decide (l.length <= 100000000 /\ ∃ n, l.all (isNk n) = true) (Classical.propDecidable _))
noncomputable def qif (a b : List CV) : Bool := shut (@decide (a = b) (Classical.propDecidable _))
noncomputable def ndsSame (a b : List CV) : Bool := shut (@decide (a = b) (Classical.propDecidable _))

end Go.Proofs.YtbgkadaidhgggaaDoorA

namespace Go.Proofs.YtbgkadaidhgggaaDoorA

noncomputable def growOk (n : Int) : Bool := shut (decide (0 <= n /\ n <= 100000000))
noncomputable def noInts : List Int := shut []
noncomputable def qmp (n : Int) : Bool := shut (decide (0 <= n /\ n <= 3000))
def qcr (tag n : Int) : List Int := tag :: (if n < 128 then [n] else if n < 256 then [129, n] else if n < 65536 then [130, n / 256, n % 256] else [131, n / 65536, n / 256 % 256, n % 256])
noncomputable def qcn (tag n : Int) : List Int := shut (qcr tag n)
noncomputable def qk6 (tag n : Int) : Bool := shut (decide ((0 <= tag /\ tag <= 255) /\ 0 <= n /\ n < 16777216))
noncomputable def qn3 (l : List CV) : Bool := shut (decide (l.length <= 1000000) && (l.all rowCV && decide ((l.flatMap qee).length <= 1000000)))

/-! ### a value's places, by its rank -/
/-- a value of any size -/
def isTf : Nat -> List CV -> Bool
 | 0, _ => false
 | n + 1, [.int .i64 _, .sli .u8 b, .slg 3 l] => b.all byteB && l.all fun c => match c with | .agg x => isTf n x | _ => false
 | _ + 1, _ => false
noncomputable def isTr (n : Nat) (a : List CV) : Bool := shut (isTf n a)
noncomputable def isT (a : List CV) : Bool := shut (@decide (∃ n, isTf n a = true) (Classical.propDecidable _))
def qie (f : List CV -> Int -> Int) : List CV -> Int -> Int
 | [], x => x
 | c :: r, x => if x < 0 then x else qie f r (f (cell1 c) x)
def qih : Nat -> List CV -> Int -> Int
 | n + 1, [.int .i64 _, .sli .u8 b, .slg 3 l], x => qie (qih n) l (x - 1 - min (b.length : Int) 1048576)
 | _, _, x => x
/-- how much there is -/
def qfp : Nat -> List CV -> Nat
 | n + 1, [.int .i64 _, .sli .u8 b, .slg 3 l] => 1 + b.length + (l.map fun c => qfp n (cell1 c)).sum
 | _, _ => 0
/-- can it be? -/
def okF : Nat -> Nat -> List CV -> Bool
 | n + 1, d + 1, [.int .i64 t, .sli .u8 b, .slg 3 l] => qa9 t && (if qa4 t = true then decide (b = []) && l.all fun c => okF n d (cell1 c) else decide (l = []) && qcq t b)
 | _, _, _ => false
/-- its bytes, and whether the sets in it are in order -/
def qam : Nat -> List CV -> List Int × Bool
 | n + 1, [.int .i64 t, .sli .u8 b, .slg 3 l] =>
  if qa4 t = true then
   let ks := l.map fun c => qam n (cell1 c)
   let bs := ks.map (·.1)
   (qcr t bs.flatten.length ++ bs.flatten, ks.all (·.2) && (!(decide (t = 49)) || qa1 bs))
  else (qcr t b.length ++ b, true)
 | _, _ => ([], false)
noncomputable def rkOf (a : List CV) : Nat := @dite _ (∃ n, isTf n a = true) (Classical.propDecidable _) (fun h => Classical.choose h) (fun _ => 0)
noncomputable def qh9 (a : List CV) (left : Int) : Int := shut (qih (rkOf a) a left)
noncomputable def ndSize (a : List CV) (deep : Int) : Int := shut (if okF (rkOf a) deep.toNat a = true then ((qam (rkOf a) a).1.length : Int) else -1)
noncomputable def isSr (n : Nat) (a : List CV) : Bool := shut (isTf n a && (decide (qfp n a <= 3000)))
noncomputable def isS (a : List CV) : Bool := shut (@decide (∃ n, isTf n a = true /\ qfp n a <= 3000) (Classical.propDecidable _))
noncomputable def isWr (n : Nat) (a : List CV) : Bool := shut (@decide (isTf n a = true /\ qfp n a <= 3000 /\ ∃ d, okF n d a = true) (Classical.propDecidable _))
noncomputable def isW (a : List CV) : Bool := shut (@decide (∃ n, isTf n a = true /\ qfp n a <= 3000 /\ ∃ d, okF n d a = true) (Classical.propDecidable _))
noncomputable def qjd (a : List CV) : List Int × Bool := shut (if (qam (rkOf a) a).2 = true then ((qam (rkOf a) a).1, true) else ([], false))
noncomputable def qfa (a : List CV) (deep : Int) : List Int × Bool := shut (if okF (rkOf a) deep.toNat a = true /\ (qam (rkOf a) a).2 = true then ((qam (rkOf a) a).1, true) else ([], false))
noncomputable def qa2 (a : List CV) : List Int × Int := shut (if okF (rkOf a) 32 a = true /\ (qam (rkOf a) a).2 = true then ((qam (rkOf a) a).1, 0) else ([], 1))
noncomputable def qql (a : List CV) : Bool := shut (decide (okF (rkOf a) 32 a = true /\ (qam (rkOf a) a).2 = true))
noncomputable def zeros (n : Int) : List Int := shut (List.replicate n.toNat 0)
end Go.Proofs.YtbgkadaidhgggaaDoorA

set_option linter.unusedSimpArgs false
set_option maxRecDepth 100000
namespace Go.Proofs.YtbgkadaidhgggaaDoorA
noncomputable def SDigits : List V -> List Obj -> Tree := fun xs obs => match xs, obs with
 | [.cl (.str s)], [] => .leaf (.ret [.cl (.int .i64 (qeb s))] [])
 | _, _ => .fail
noncomputable def preDigits : List V -> List Obj -> Bool := fun xs obs => match xs, obs with
 | [.cl (.str s)], [] => decide (2 <= s.size)
 | _, _ => false
noncomputable def SDLeap : List V -> List Obj -> Tree := fun xs obs => match xs, obs with
 | [.cl (.aggi 6 .i64 [d0, d1, d2, d3, d4, d5])], [] => .leaf (.ret [.cl (.bool (qex d0))] [])
 | _, _ => .fail
noncomputable def preDLeap : List V -> List Obj -> Bool := fun xs obs => match xs, obs with
 | [.cl (.aggi 6 .i64 [d0, d1, d2, d3, d4, d5])], [] => stOk d0
 | _, _ => false
noncomputable def SDDays : List V -> List Obj -> Tree := fun xs obs => match xs, obs with
 | [.cl (.aggi 6 .i64 [d0, d1, d2, d3, d4, d5])], [] => .leaf (.ret [.cl (.int .i64 (qew d0 d1))] [])
 | _, _ => .fail
noncomputable def preDDays : List V -> List Obj -> Bool := fun xs obs => match xs, obs with
 | [.cl (.aggi 6 .i64 [d0, d1, d2, d3, d4, d5])], [] => stOk d0
 | _, _ => false
noncomputable def SDFit : List V -> List Obj -> Tree := fun xs obs => match xs, obs with
 | [.cl (.aggi 6 .i64 [d0, d1, d2, d3, d4, d5])], [] => .leaf (.ret [.cl (.bool (qlk d0 d1 d2 d3 d4 d5))] [])
 | _, _ => .fail
noncomputable def preDFit : List V -> List Obj -> Bool := fun xs obs => match xs, obs with
 | [.cl (.aggi 6 .i64 [d0, d1, d2, d3, d4, d5])], [] => true
 | _, _ => false
noncomputable def SDSecs : List V -> List Obj -> Tree := fun xs obs => match xs, obs with
 | [.cl (.aggi 6 .i64 [d0, d1, d2, d3, d4, d5])], [] => .leaf (.ret [.cl (.int .i64 (qk8 d0 d1 d2 d3 d4 d5))] [])
 | _, _ => .fail
noncomputable def preDSecs : List V -> List Obj -> Bool := fun xs obs => match xs, obs with
 | [.cl (.aggi 6 .i64 [d0, d1, d2, d3, d4, d5])], [] => qlk d0 d1 d2 d3 d4 d5
 | _, _ => false
noncomputable def SSRead : List V -> List Obj -> Tree := fun xs obs => match xs, obs with
 | [.cl (.str s)], [] => .leaf (.ret [.cl (.int .i64 ((qom s).1)), .cl (.int .i64 ((qom s).2))] [])
 | _, _ => .fail
noncomputable def preSRead : List V -> List Obj -> Bool := fun xs obs => match xs, obs with
 | [.cl (.str s)], [] => true
 | _, _ => false
noncomputable def SRLeap : List V -> List Obj -> Tree := fun xs obs => match xs, obs with
 | [.cl (.int .i64 y)], [] => .leaf (.ret [.cl (.bool (qex y))] [])
 | _, _ => .fail
noncomputable def preRLeap : List V -> List Obj -> Bool := fun xs obs => match xs, obs with
 | [.cl (.int .i64 y)], [] => stOk y
 | _, _ => false
noncomputable def SRDays : List V -> List Obj -> Tree := fun xs obs => match xs, obs with
 | [.cl (.int .i64 y), .cl (.int .i64 m)], [] => .leaf (.ret [.cl (.int .i64 (qib y m))] [])
 | _, _ => .fail
noncomputable def preRDays : List V -> List Obj -> Bool := fun xs obs => match xs, obs with
 | [.cl (.int .i64 y), .cl (.int .i64 m)], [] => true
 | _, _ => false
noncomputable def SRYears : List V -> List Obj -> Tree := fun xs obs => match xs, obs with
 | [.cl (.int .i64 y)], [] => .leaf (.ret [.cl (.int .i64 (qbl y))] [])
 | _, _ => .fail
noncomputable def preRYears : List V -> List Obj -> Bool := fun xs obs => match xs, obs with
 | [.cl (.int .i64 y)], [] => stOk y
 | _, _ => false
noncomputable def SRNumber : List V -> List Obj -> Tree := fun xs obs => match xs, obs with
 | [.cl (.str s)], [] => .leaf (.ret [.cl (.int .i64 (qcx s))] [])
 | _, _ => .fail
noncomputable def preRNumber : List V -> List Obj -> Bool := fun xs obs => match xs, obs with
 | [.cl (.str s)], [] => decide (s.size <= 18)
 | _, _ => false
noncomputable def SRRead : List V -> List Obj -> Tree := fun xs obs => match xs, obs with
 | [.cl (.str s)], [] => .leaf (.ret [.cl (.int .i64 ((qom s).1)), .cl (.int .i64 ((qom s).2))] [])
 | _, _ => .fail
noncomputable def preRRead : List V -> List Obj -> Bool := fun xs obs => match xs, obs with
 | [.cl (.str s)], [] => true
 | _, _ => false
noncomputable def SDBoxed : List V -> List Obj -> Tree := fun xs obs => match xs, obs with
 | [.cl (.int .i64 tag)], [] => .leaf (.ret [.cl (.bool (qbe tag))] [])
 | _, _ => .fail
noncomputable def qma : List V -> List Obj -> Bool := fun xs obs => match xs, obs with
 | [.cl (.int .i64 tag)], [] => true
 | _, _ => false
noncomputable def SRBoxed : List V -> List Obj -> Tree := fun xs obs => match xs, obs with
 | [.cl (.int .i64 tag)], [] => .leaf (.ret [.cl (.bool (qbe tag))] [])
 | _, _ => .fail
noncomputable def preRBoxed : List V -> List Obj -> Bool := fun xs obs => match xs, obs with
 | [.cl (.int .i64 tag)], [] => true
 | _, _ => false
noncomputable def SDKnown : List V -> List Obj -> Tree := fun xs obs => match xs, obs with
 | [.cl (.int .i64 tag)], [] => .leaf (.ret [.cl (.bool (qcv tag))] [])
 | _, _ => .fail
noncomputable def preDKnown : List V -> List Obj -> Bool := fun xs obs => match xs, obs with
 | [.cl (.int .i64 tag)], [] => true
 | _, _ => false
noncomputable def SRTagged : List V -> List Obj -> Tree := fun xs obs => match xs, obs with
 | [.cl (.int .i64 tag)], [] => .leaf (.ret [.cl (.bool (qcv tag))] [])
 | _, _ => .fail
noncomputable def preRTagged : List V -> List Obj -> Bool := fun xs obs => match xs, obs with
 | [.cl (.int .i64 tag)], [] => true
 | _, _ => false
noncomputable def qm8 : List V -> List Obj -> Tree := fun xs obs => match xs, obs with
 | [.cl (.int .i64 n)], [] => .leaf (.ret [.cl (.int .i64 (qbs n))] [])
 | _, _ => .fail
noncomputable def qj2 : List V -> List Obj -> Bool := fun xs obs => match xs, obs with
 | [.cl (.int .i64 n)], [] => true
 | _, _ => false
noncomputable def SDNumber : List V -> List Obj -> Tree := fun xs obs => match xs, obs with
 | [.cl (.sli .u8 b)], [] => .leaf (.ret [.cl (.bool (qel b))] [])
 | _, _ => .fail
noncomputable def preDNumber : List V -> List Obj -> Bool := fun xs obs => match xs, obs with
 | [.cl (.sli .u8 b)], [] => qac b
 | _, _ => false
noncomputable def SRFitInt : List V -> List Obj -> Tree := fun xs obs => match xs, obs with
 | [.cl (.sli .u8 b)], [] => .leaf (.ret [.cl (.bool (qel b))] [])
 | _, _ => .fail
noncomputable def preRFitInt : List V -> List Obj -> Bool := fun xs obs => match xs, obs with
 | [.cl (.sli .u8 b)], [] => qac b
 | _, _ => false
noncomputable def SDStrip : List V -> List Obj -> Tree := fun xs obs => match xs, obs with
 | [.cl (.sli .u8 b)], [] => .leaf (.ret [.cl (.bool (qhh b))] [])
 | _, _ => .fail
noncomputable def preDStrip : List V -> List Obj -> Bool := fun xs obs => match xs, obs with
 | [.cl (.sli .u8 b)], [] => qac b
 | _, _ => false
noncomputable def SRFitBits : List V -> List Obj -> Tree := fun xs obs => match xs, obs with
 | [.cl (.sli .u8 b)], [] => .leaf (.ret [.cl (.bool (qhh b))] [])
 | _, _ => .fail
noncomputable def preRFitBits : List V -> List Obj -> Bool := fun xs obs => match xs, obs with
 | [.cl (.sli .u8 b)], [] => qac b
 | _, _ => false
noncomputable def SRCont : List V -> List Obj -> Tree := fun xs obs => match xs, obs with
 | [.cl (.sli .u8 b), .cl (.int .i64 i)], [] => .leaf (.ret [.cl (.bool (u8Cont b i))] [])
 | _, _ => .fail
noncomputable def preRCont : List V -> List Obj -> Bool := fun xs obs => match xs, obs with
 | [.cl (.sli .u8 b), .cl (.int .i64 i)], [] => decide (0 <= i)
 | _, _ => false
noncomputable def SRRune : List V -> List Obj -> Tree := fun xs obs => match xs, obs with
 | [.cl (.sli .u8 b), .cl (.int .i64 i)], [] => .leaf (.ret [.cl (.int .i64 (u8Rune b i))] [])
 | _, _ => .fail
noncomputable def preRRune : List V -> List Obj -> Bool := fun xs obs => match xs, obs with
 | [.cl (.sli .u8 b), .cl (.int .i64 i)], [] => qac b && decide (0 <= i /\ i < b.length)
 | _, _ => false
noncomputable def SRUtf8 : List V -> List Obj -> Tree := fun xs obs => match xs, obs with
 | [.cl (.sli .u8 b)], [] => .leaf (.ret [.cl (.bool (u8Valid b))] [])
 | _, _ => .fail
noncomputable def preRUtf8 : List V -> List Obj -> Bool := fun xs obs => match xs, obs with
 | [.cl (.sli .u8 b)], [] => qac b
 | _, _ => false
noncomputable def SOFit : List V -> List Obj -> Tree := fun xs obs => match xs, obs with
 | [.cl (.sli .u32 o)], [] => .leaf (.ret [.cl (.bool (qn1 o))] [])
 | _, _ => .fail
noncomputable def preOFit : List V -> List Obj -> Bool := fun xs obs => match xs, obs with
 | [.cl (.sli .u32 o)], [] => true
 | _, _ => false
noncomputable def SR2Fit : List V -> List Obj -> Tree := fun xs obs => match xs, obs with
 | [.cl (.sli .u32 o)], [] => .leaf (.ret [.cl (.bool (qn1 o))] [])
 | _, _ => .fail
noncomputable def preR2Fit : List V -> List Obj -> Bool := fun xs obs => match xs, obs with
 | [.cl (.sli .u32 o)], [] => true
 | _, _ => false
noncomputable def SR2First : List V -> List Obj -> Tree := fun xs obs => match xs, obs with
 | [.cl (.int .u64 n)], [] => .leaf (.ret [.cl (.sli .u32 (qe0 n))] [])
 | _, _ => .fail
noncomputable def preR2First : List V -> List Obj -> Bool := fun xs obs => match xs, obs with
 | [.cl (.int .u64 n)], [] => u32Ok n
 | _, _ => false
noncomputable def SONumber : List V -> List Obj -> Tree := fun xs obs => match xs, obs with
 | [.cl (.sli .u8 b)], [] => .leaf (.ret [.cl (.int .u32 ((qeo b).1)), .cl (.int .i64 ((qeo b).2))] [])
 | _, _ => .fail
noncomputable def preONumber : List V -> List Obj -> Bool := fun xs obs => match xs, obs with
 | [.cl (.sli .u8 b)], [] => qac b
 | _, _ => false
noncomputable def SONumbers : List V -> List Obj -> Tree := fun xs obs => match xs, obs with
 | [.cl (.sli .u8 b)], [] => .leaf (.ret [.fn (.func 75) [] [.ptr 0 0 0]] [some ⟨.var [.cl (.sli .u8 b)], false⟩])
 | _, _ => .fail
noncomputable def preONumbers : List V -> List Obj -> Bool := fun xs obs => match xs, obs with
 | [.cl (.sli .u8 b)], [] => true
 | _, _ => false
noncomputable def SOParse : List V -> List Obj -> Tree := fun xs obs => match xs, obs with
 | [.cl (.sli .u8 b)], [] => .leaf (.ret [.cl (.sli .u32 ((qdu b).1)), .cl (.int .i64 ((qdu b).2))] [])
 | _, _ => .fail
noncomputable def preOParse : List V -> List Obj -> Bool := fun xs obs => match xs, obs with
 | [.cl (.sli .u8 b)], [] => qac b
 | _, _ => false
noncomputable def SR2Parse : List V -> List Obj -> Tree := fun xs obs => match xs, obs with
 | [.cl (.sli .u8 b)], [] => .leaf (.ret [.cl (.sli .u32 ((qdu b).1)), .cl (.int .i64 ((qdu b).2))] [])
 | _, _ => .fail
noncomputable def preR2Parse : List V -> List Obj -> Bool := fun xs obs => match xs, obs with
 | [.cl (.sli .u8 b)], [] => qac b
 | _, _ => false
noncomputable def SR1Same : List V -> List Obj -> Tree := fun xs obs => match xs, obs with
 | [.cl (.sli .u8 a), .cl (.sli .u8 b)], [] => .leaf (.ret [.cl (.bool (qb3 a b))] [])
 | _, _ => .fail
noncomputable def qqx : List V -> List Obj -> Bool := fun xs obs => match xs, obs with
 | [.cl (.sli .u8 a), .cl (.sli .u8 b)], [] => qid a
 | _, _ => false
noncomputable def SSClone : List V -> List Obj -> Tree := fun xs obs => match xs, obs with
 | [.cl (.sli .u8 b)], [] => .leaf (.ret [.cl (.sli .u8 b)] [])
 | _, _ => .fail
noncomputable def preSClone : List V -> List Obj -> Bool := fun xs obs => match xs, obs with
 | [.cl (.sli .u8 b)], [] => qid b
 | _, _ => false
noncomputable def SR1Num : List V -> List Obj -> Tree := fun xs obs => match xs, obs with
 | [.cl (.sli .u8 b)], [] => .leaf (.ret [.cl (.int .u64 (bytesNum b))] [])
 | _, _ => .fail
noncomputable def preR1Num : List V -> List Obj -> Bool := fun xs obs => match xs, obs with
 | [.cl (.sli .u8 b)], [] => qac b && decide (b.length <= 7)
 | _, _ => false
noncomputable def SRLength : List V -> List Obj -> Tree := fun xs obs => match xs, obs with
 | [.cl (.sli .u8 b)], [] => .leaf (.ret [.cl (.int .i64 ((qmo b).1)), .cl (.int .i64 ((qmo b).2))] [])
 | _, _ => .fail
noncomputable def preRLength : List V -> List Obj -> Bool := fun xs obs => match xs, obs with
 | [.cl (.sli .u8 b)], [] => qac b
 | _, _ => false
noncomputable def SR4Less : List V -> List Obj -> Tree := fun xs obs => match xs, obs with
 | [.cl (.sli .u8 a), .cl (.sli .u8 b)], [] => .leaf (.ret [.cl (.bool (qof a b))] [])
 | _, _ => .fail
noncomputable def preR4Less : List V -> List Obj -> Bool := fun xs obs => match xs, obs with
 | [.cl (.sli .u8 a), .cl (.sli .u8 b)], [] => qid a
 | _, _ => false
noncomputable def SUWord : List V -> List Obj -> Tree := fun xs obs => match xs, obs with
 | [.cl (.sli .u8 b)], [] => .leaf (.ret [.cl (.int .u64 (u8Word b))] [])
 | _, _ => .fail
noncomputable def preUWord : List V -> List Obj -> Bool := fun xs obs => match xs, obs with
 | [.cl (.sli .u8 b)], [] => qac b && decide (8 <= b.length)
 | _, _ => false
noncomputable def SUValid : List V -> List Obj -> Tree := fun xs obs => match xs, obs with
 | [.cl (.sli .u8 b)], [] => .leaf (.ret [.cl (.bool (u8Valid b))] [])
 | _, _ => .fail
noncomputable def preUValid : List V -> List Obj -> Bool := fun xs obs => match xs, obs with
 | [.cl (.sli .u8 b)], [] => qac b
 | _, _ => false
noncomputable def SRSame : List V -> List Obj -> Tree := fun xs obs => match xs, obs with
 | [.cl (.agg a), .cl (.agg b)], [] => .leaf (.ret [.cl (.bool (qif a b))] [])
 | _, _ => .fail
noncomputable def preRSame : List V -> List Obj -> Bool := fun xs obs => match xs, obs with
 | [.cl (.agg a), .cl (.agg b)], [] => isN a && isN b
 | _, _ => false
noncomputable def qnx (rk : Nat) : List V -> List Obj -> Bool := fun xs obs => match xs, obs with
 | [.cl (.agg a), .cl (.agg b)], [] => isNr rk a && isN b
 | _, _ => false
noncomputable def SDFits : List V -> List Obj -> Tree := fun xs obs => match xs, obs with
 | [.cl (.int .i64 tag), .cl (.sli .u8 b)], [] => .leaf (.ret [.cl (.bool (qc4 tag b))] [])
 | _, _ => .fail
noncomputable def preDFits : List V -> List Obj -> Bool := fun xs obs => match xs, obs with
 | [.cl (.int .i64 tag), .cl (.sli .u8 b)], [] => qac b
 | _, _ => false
noncomputable def SRFits : List V -> List Obj -> Tree := fun xs obs => match xs, obs with
 | [.cl (.int .i64 tag), .cl (.sli .u8 b)], [] => .leaf (.ret [.cl (.bool (qc4 tag b))] [])
 | _, _ => .fail
noncomputable def preRFits : List V -> List Obj -> Bool := fun xs obs => match xs, obs with
 | [.cl (.int .i64 tag), .cl (.sli .u8 b)], [] => qac b
 | _, _ => false
noncomputable def SR4Sorted : List V -> List Obj -> Tree := fun xs obs => match xs, obs with
 | [.cl (.slg 1 l)], [] => .leaf (.ret [.cl (.bool (qbg l))] [])
 | _, _ => .fail
noncomputable def preR4Sorted : List V -> List Obj -> Bool := fun xs obs => match xs, obs with
 | [.cl (.slg 1 l)], [] => qf0 l
 | _, _ => false
noncomputable def SBACompare : List V -> List Obj -> Tree := fun xs obs => match xs, obs with
 | [.cl (.sli .u8 a), .cl (.sli .u8 b)], [] => .leaf (.ret [.cl (.int .i64 (qfl a b))] [])
 | _, _ => .fail
noncomputable def qlo : List V -> List Obj -> Bool := fun xs obs => match xs, obs with
 | [.cl (.sli .u8 a), .cl (.sli .u8 b)], [] => qac a && qac b
 | _, _ => false
noncomputable def SBCompare : List V -> List Obj -> Tree := fun xs obs => match xs, obs with
 | [.cl (.sli .u8 a), .cl (.sli .u8 b)], [] => .leaf (.ret [.cl (.int .i64 (qfl a b))] [])
 | _, _ => .fail
noncomputable def preBCompare : List V -> List Obj -> Bool := fun xs obs => match xs, obs with
 | [.cl (.sli .u8 a), .cl (.sli .u8 b)], [] => qac a && qac b
 | _, _ => false
noncomputable def SOLess : List V -> List Obj -> Tree := fun xs obs => match xs, obs with
 | [.cl (.sli .u8 a), .cl (.sli .u8 b)], [] => .leaf (.ret [.cl (.bool (decide (qfl a b <= 0)))] [])
 | _, _ => .fail
noncomputable def preOLess : List V -> List Obj -> Bool := fun xs obs => match xs, obs with
 | [.cl (.sli .u8 a), .cl (.sli .u8 b)], [] => qac a && qac b
 | _, _ => false
noncomputable def SOSteps : List V -> List Obj -> Tree := fun xs obs => match xs, obs with
 | [.cl (.slg 1 l), .cl (.fn (.func 59) [] [])], [] => .leaf (.ret [.cl (.bool (qbg l))] [])
 | _, _ => .fail
noncomputable def preOSteps : List V -> List Obj -> Bool := fun xs obs => match xs, obs with
 | [.cl (.slg 1 l), .cl (.fn (.func 59) [] [])], [] => qf0 l
 | _, _ => false
noncomputable def SOSorted : List V -> List Obj -> Tree := fun xs obs => match xs, obs with
 | [.cl (.slg 1 l)], [] => .leaf (.ret [.cl (.bool (qbg l))] [])
 | _, _ => .fail
noncomputable def qse : List V -> List Obj -> Bool := fun xs obs => match xs, obs with
 | [.cl (.slg 1 l)], [] => qf0 l
 | _, _ => false
noncomputable def SRReadN : List V -> List Obj -> Tree := fun xs obs => match xs, obs with
 | [.cl (.sli .u8 b), .cl (.int .i64 deep)], [] => .leaf (.ret [.cl (.agg [.int .i64 ((qej b deep).1.1), .sli .u8 ((qej b deep).1.2.1), .slg 3 ((qej b deep).1.2.2)]), .cl (.int .i64 ((qej b deep).2.1)), .cl (.int .i64 ((qej b deep).2.2))] [])
 | _, _ => .fail
noncomputable def preRReadN : List V -> List Obj -> Bool := fun xs obs => match xs, obs with
 | [.cl (.sli .u8 b), .cl (.int .i64 deep)], [] => qac b && qb9 deep
 | _, _ => false
noncomputable def preRRReadN (rk : Nat) : List V -> List Obj -> Bool := fun xs obs => match xs, obs with
 | [.cl (.sli .u8 b), .cl (.int .i64 deep)], [] => qac b && (qb9 deep && decide (deep.toNat < rk))
 | _, _ => false
noncomputable def SRParse : List V -> List Obj -> Tree := fun xs obs => match xs, obs with
 | [.cl (.sli .u8 b)], [] => .leaf (.ret [.cl (.agg [.int .i64 ((qar b).1.1), .sli .u8 ((qar b).1.2.1), .slg 3 ((qar b).1.2.2)]), .cl (.int .i64 ((qar b).2))] [])
 | _, _ => .fail
noncomputable def preRParse : List V -> List Obj -> Bool := fun xs obs => match xs, obs with
 | [.cl (.sli .u8 b)], [] => qac b
 | _, _ => false
noncomputable def SDMust : List V -> List Obj -> Tree := fun xs obs => match xs, obs with
 | [.cl (.bool true), .cl (.int .i64 e)], [] => .leaf (.ret [] [])
 | [.cl (.bool false), .cl (.int .i64 e)], [] => .ite (true) (.leaf (.pan (.iface 47 (.agg [.int .i64 e])) [])) (.leaf (.ret [] []))
 | _, _ => .fail
noncomputable def qoj : List V -> List Obj -> Bool := fun xs obs => match xs, obs with
 | [.cl (.bool true), .cl (.int .i64 e)], [] => true
 | [.cl (.bool false), .cl (.int .i64 e)], [] => true
 | _, _ => false
noncomputable def SDNext : List V -> List Obj -> Tree := fun xs obs => match xs, obs with
 | [.ptr 0 0 0], [⟨.var [.cl (.sli .u8 l), .cl (.int .i64 d)], false⟩] => .ite (l.isEmpty) (.leaf (.pan (.iface 47 (.agg [.int .i64 1])) [some ⟨.var [.cl (.sli .u8 l), .cl (.int .i64 d)], false⟩])) (.leaf (.ret [.cl (.int .i64 (l.headD 0))] [some ⟨.var [.cl (.sli .u8 l.tail), .cl (.int .i64 d)], false⟩]))
 | _, _ => .fail
noncomputable def preDNext : List V -> List Obj -> Bool := fun xs obs => match xs, obs with
 | [.ptr 0 0 0], [⟨.var [.cl (.sli .u8 l), .cl (.int .i64 d)], false⟩] => qac l
 | _, _ => false
noncomputable def SDLength : List V -> List Obj -> Tree := fun xs obs => match xs, obs with
 | [.ptr 0 0 0], [⟨.var [.cl (.sli .u8 l), .cl (.int .i64 d)], false⟩] => .ite (!(qpm l)) (.leaf (.pan (.iface 47 (.agg [.int .i64 1])) [some ⟨.var [.cl (.sli .u8 (qfd l)), .cl (.int .i64 d)], false⟩])) (.leaf (.ret [.cl (.int .i64 ((qdj l).1))] [some ⟨.var [.cl (.sli .u8 ((qdj l).2)), .cl (.int .i64 d)], false⟩]))
 | _, _ => .fail
noncomputable def preDLength : List V -> List Obj -> Bool := fun xs obs => match xs, obs with
 | [.ptr 0 0 0], [⟨.var [.cl (.sli .u8 l), .cl (.int .i64 d)], false⟩] => qac l
 | _, _ => false
noncomputable def SDValue : List V -> List Obj -> Tree := fun xs obs => match xs, obs with
 | [.ptr 0 0 0], [⟨.var [.cl (.sli .u8 l), .cl (.int .i64 d)], false⟩] => .ite (!(decide ((qk9 l d).1 = 0))) (.leaf (.pan (.iface 47 (.agg [.int .i64 ((qk9 l d).1)])) [some ⟨.var [.cl (.sli .u8 ((qk9 l d).2.2)), .cl (.int .i64 d)], false⟩])) (.leaf (.ret [.cl (.agg [.int .i64 ((qk9 l d).2.1.1), .sli .u8 ((qk9 l d).2.1.2.1), .slg 3 ((qk9 l d).2.1.2.2)])] [some ⟨.var [.cl (.sli .u8 ((qk9 l d).2.2)), .cl (.int .i64 d)], false⟩]))
 | _, _ => .fail
noncomputable def preDValue : List V -> List Obj -> Bool := fun xs obs => match xs, obs with
 | [.ptr 0 0 0], [⟨.var [.cl (.sli .u8 l), .cl (.int .i64 d)], false⟩] => qac l && qb9 d
 | _, _ => false
noncomputable def qjf (rk : Nat) : List V -> List Obj -> Bool := fun xs obs => match xs, obs with
 | [.ptr 0 0 0], [⟨.var [.cl (.sli .u8 l), .cl (.int .i64 d)], false⟩] => qac l && (qb9 d && decide (d.toNat < rk))
 | _, _ => false
noncomputable def SDParts : List V -> List Obj -> Tree := fun xs obs => match xs, obs with
 | [.ptr 0 0 0, .cl (.int .i64 tag), .cl (.sli .u8 b)], [⟨.var [.cl (.sli .u8 l), .cl (.int .i64 d)], false⟩] => .ite (!(decide ((qa6 tag b d).1 = 0))) (.leaf (.pan (.iface 47 (.agg [.int .i64 ((qa6 tag b d).1)])) [some ⟨.var [.cl (.sli .u8 l), .cl (.int .i64 d)], false⟩])) (.leaf (.ret [.cl (.agg [.int .i64 ((qa6 tag b d).2.1), .sli .u8 ((qa6 tag b d).2.2.1), .slg 3 ((qa6 tag b d).2.2.2)])] [some ⟨.var [.cl (.sli .u8 l), .cl (.int .i64 d)], false⟩]))
 | _, _ => .fail
noncomputable def preDParts : List V -> List Obj -> Bool := fun xs obs => match xs, obs with
 | [.ptr 0 0 0, .cl (.int .i64 tag), .cl (.sli .u8 b)], [⟨.var [.cl (.sli .u8 l), .cl (.int .i64 d)], false⟩] => qac b && (qb9 d && decide (0 < d))
 | _, _ => false
noncomputable def preRDParts (rk : Nat) : List V -> List Obj -> Bool := fun xs obs => match xs, obs with
 | [.ptr 0 0 0, .cl (.int .i64 tag), .cl (.sli .u8 b)], [⟨.var [.cl (.sli .u8 l), .cl (.int .i64 d)], false⟩] => qac b && (qb9 d && decide (0 < d /\ d.toNat < rk + 1))
 | _, _ => false
noncomputable def SDParse : List V -> List Obj -> Tree := fun xs obs => match xs, obs with
 | [.cl (.sli .u8 b)], [] => .leaf (.ret [.cl (.agg [.int .i64 ((qar b).1.1), .sli .u8 ((qar b).1.2.1), .slg 3 ((qar b).1.2.2)]), .cl (.int .i64 ((qar b).2))] [])
 | _, _ => .fail
noncomputable def preDParse : List V -> List Obj -> Bool := fun xs obs => match xs, obs with
 | [.cl (.sli .u8 b)], [] => qac b
 | _, _ => false
noncomputable def SLAwake : List V -> List Obj -> Tree := fun xs obs => match xs, obs with
 | [], [] => .leaf (.ret [.cl (.bool true)] [])
 | _, _ => .fail
noncomputable def preLAwake : List V -> List Obj -> Bool := fun xs obs => match xs, obs with
 | [], [] => true
 | _, _ => false
noncomputable def SLReads : List V -> List Obj -> Tree := fun xs obs => match xs, obs with
 | [.cl (.sli .u8 b)], [] => .leaf (.ret [.cl (.bool true)] [])
 | _, _ => .fail
noncomputable def preLReads : List V -> List Obj -> Bool := fun xs obs => match xs, obs with
 | [.cl (.sli .u8 b)], [] => qfr b
 | _, _ => false
noncomputable def SLDeep : List V -> List Obj -> Tree := fun xs obs => match xs, obs with
 | [.cl (.int .u8 n)], [] => .leaf (.ret [.cl (.bool true)] [])
 | _, _ => .fail
noncomputable def preLDeep : List V -> List Obj -> Bool := fun xs obs => match xs, obs with
 | [.cl (.int .u8 n)], [] => decide (0 <= n /\ n <= 255)
 | _, _ => false
noncomputable def SDSame : List V -> List Obj -> Tree := fun xs obs => match xs, obs with
 | [.cl (.agg a), .cl (.agg b)], [] => .leaf (.ret [.cl (.bool (qif a b))] [])
 | _, _ => .fail
noncomputable def preDSame : List V -> List Obj -> Bool := fun xs obs => match xs, obs with
 | [.cl (.agg a), .cl (.agg b)], [] => isN a && isN b
 | _, _ => false
noncomputable def preRDSame (rk : Nat) : List V -> List Obj -> Bool := fun xs obs => match xs, obs with
 | [.cl (.agg a), .cl (.agg b)], [] => isNr rk a && isN b
 | _, _ => false
noncomputable def SEqF : List V -> List Obj -> Tree := fun xs obs => match xs, obs with
 | [.cl (.slg 3 a), .cl (.slg 3 b), .cl (.fn (.func 20) [] [])], [] => .leaf (.ret [.cl (.bool (ndsSame a b))] [])
 | _, _ => .fail
noncomputable def preEqF : List V -> List Obj -> Bool := fun xs obs => match xs, obs with
 | [.cl (.slg 3 a), .cl (.slg 3 b), .cl (.fn (.func 20) [] [])], [] => isNs a && isNs b
 | _, _ => false
noncomputable def preREqF (rk : Nat) : List V -> List Obj -> Bool := fun xs obs => match xs, obs with
 | [.cl (.slg 3 a), .cl (.slg 3 b), .cl (.fn (.func 20) [] [])], [] => isNsr rk a && isNs b
 | _, _ => false
noncomputable def SSEqual : List V -> List Obj -> Tree := fun xs obs => match xs, obs with
 | [.cl (.sli .u8 a), .cl (.sli .u8 b)], [] => .leaf (.ret [.cl (.bool (qb3 a b))] [])
 | _, _ => .fail
noncomputable def preSEqual : List V -> List Obj -> Bool := fun xs obs => match xs, obs with
 | [.cl (.sli .u8 a), .cl (.sli .u8 b)], [] => qid a
 | _, _ => false
noncomputable def SRSmall : List V -> List Obj -> Tree := fun xs obs => match xs, obs with
 | [.cl (.agg a), .cl (.int .i64 left)], [] => .leaf (.ret [.cl (.int .i64 (qh9 a left))] [])
 | _, _ => .fail
noncomputable def preRSmall : List V -> List Obj -> Bool := fun xs obs => match xs, obs with
 | [.cl (.agg a), .cl (.int .i64 left)], [] => isT a && qmp left
 | _, _ => false
noncomputable def qfz (rk : Nat) : List V -> List Obj -> Bool := fun xs obs => match xs, obs with
 | [.cl (.agg a), .cl (.int .i64 left)], [] => isTr rk a && qmp left
 | _, _ => false
noncomputable def SDSize : List V -> List Obj -> Tree := fun xs obs => match xs, obs with
 | [.cl (.agg a), .cl (.int .i64 deep)], [] => .leaf (.ret [.cl (.int .i64 (ndSize a deep))] [])
 | _, _ => .fail
noncomputable def preDSize : List V -> List Obj -> Bool := fun xs obs => match xs, obs with
 | [.cl (.agg a), .cl (.int .i64 deep)], [] => isS a && qb9 deep
 | _, _ => false
noncomputable def qk0 (rk : Nat) : List V -> List Obj -> Bool := fun xs obs => match xs, obs with
 | [.cl (.agg a), .cl (.int .i64 deep)], [] => isSr rk a && qb9 deep
 | _, _ => false
noncomputable def SDPut : List V -> List Obj -> Tree := fun xs obs => match xs, obs with
 | [.nils, .cl (.int .i64 tag), .cl (.int .i64 n)], [] => .leaf (.ret [.ref 0 0 ((qcn tag n).length) true 1] [some ⟨.ints .u8 (qcn tag n), false⟩])
 | _, _ => .fail
noncomputable def preDPut : List V -> List Obj -> Bool := fun xs obs => match xs, obs with
 | [.nils, .cl (.int .i64 tag), .cl (.int .i64 n)], [] => qk6 tag n
 | _, _ => false
noncomputable def SRHead : List V -> List Obj -> Tree := fun xs obs => match xs, obs with
 | [.cl (.int .i64 tag), .cl (.int .i64 n)], [] => .leaf (.ret [.ref 0 0 ((qcn tag n).length) true 1] [some ⟨.ints .u8 (qcn tag n), false⟩])
 | _, _ => .fail
noncomputable def preRHead : List V -> List Obj -> Bool := fun xs obs => match xs, obs with
 | [.cl (.int .i64 tag), .cl (.int .i64 n)], [] => qk6 tag n
 | _, _ => false
noncomputable def SR1Join : List V -> List Obj -> Tree := fun xs obs => match xs, obs with
 | [.cl (.slg 1 l)], [] => .leaf (.ret [.cl (.sli .u8 (qcs l))] [])
 | _, _ => .fail
noncomputable def preR1Join : List V -> List Obj -> Bool := fun xs obs => match xs, obs with
 | [.cl (.slg 1 l)], [] => qn3 l
 | _, _ => false
noncomputable def SSConcat : List V -> List Obj -> Tree := fun xs obs => match xs, obs with
 | [.cl (.slg 1 l)], [] => .leaf (.ret [.cl (.sli .u8 (qcs l))] [])
 | _, _ => .fail
noncomputable def preSConcat : List V -> List Obj -> Bool := fun xs obs => match xs, obs with
 | [.cl (.slg 1 l)], [] => qn3 l
 | _, _ => false
noncomputable def SDWrite : List V -> List Obj -> Tree := fun xs obs => match xs, obs with
 | [.cl (.agg a)], [] => .leaf (.ret [.cl (.sli .u8 ((qjd a).1)), .cl (.bool ((qjd a).2))] [])
 | _, _ => .fail
noncomputable def preDWrite : List V -> List Obj -> Bool := fun xs obs => match xs, obs with
 | [.cl (.agg a)], [] => isW a
 | _, _ => false
noncomputable def qf2 (rk : Nat) : List V -> List Obj -> Bool := fun xs obs => match xs, obs with
 | [.cl (.agg a)], [] => isWr rk a
 | _, _ => false
noncomputable def SRWrite : List V -> List Obj -> Tree := fun xs obs => match xs, obs with
 | [.cl (.agg a), .cl (.int .i64 deep)], [] => .leaf (.ret [.cl (.sli .u8 ((qfa a deep).1)), .cl (.bool ((qfa a deep).2))] [])
 | _, _ => .fail
noncomputable def preRWrite : List V -> List Obj -> Bool := fun xs obs => match xs, obs with
 | [.cl (.agg a), .cl (.int .i64 deep)], [] => isS a && qb9 deep
 | _, _ => false
noncomputable def qf5 (rk : Nat) : List V -> List Obj -> Bool := fun xs obs => match xs, obs with
 | [.cl (.agg a), .cl (.int .i64 deep)], [] => isSr rk a && qb9 deep
 | _, _ => false
noncomputable def SDBytes : List V -> List Obj -> Tree := fun xs obs => match xs, obs with
 | [.cl (.agg a)], [] => .leaf (.ret [.cl (.sli .u8 ((qa2 a).1)), .cl (.int .i64 ((qa2 a).2))] [])
 | _, _ => .fail
noncomputable def qmd : List V -> List Obj -> Bool := fun xs obs => match xs, obs with
 | [.cl (.agg a)], [] => isS a
 | _, _ => false
noncomputable def SDFit_ : List V -> List Obj -> Tree := fun xs obs => match xs, obs with
 | [.cl (.agg a)], [] => .leaf (.ret [.cl (.bool (qql a))] [])
 | _, _ => .fail
noncomputable def preDFit_ : List V -> List Obj -> Bool := fun xs obs => match xs, obs with
 | [.cl (.agg a)], [] => isS a
 | _, _ => false
noncomputable def SRBytes : List V -> List Obj -> Tree := fun xs obs => match xs, obs with
 | [.cl (.agg a)], [] => .leaf (.ret [.cl (.sli .u8 ((qa2 a).1)), .cl (.int .i64 ((qa2 a).2))] [])
 | _, _ => .fail
noncomputable def qm6 : List V -> List Obj -> Bool := fun xs obs => match xs, obs with
 | [.cl (.agg a)], [] => isS a
 | _, _ => false
noncomputable def SRFit_ : List V -> List Obj -> Tree := fun xs obs => match xs, obs with
 | [.cl (.agg a)], [] => .leaf (.ret [.cl (.bool (qql a))] [])
 | _, _ => .fail
noncomputable def preRFit_ : List V -> List Obj -> Bool := fun xs obs => match xs, obs with
 | [.cl (.agg a)], [] => isS a
 | _, _ => false
noncomputable def SSGrow : List V -> List Obj -> Tree := fun xs obs => match xs, obs with
 | [.nils, .cl (.int .i64 n)], [] => .leaf (.ret [.ref 0 0 0 true 1] [some ⟨.ints .u8 noInts, false⟩])
 | _, _ => .fail
noncomputable def preSGrow : List V -> List Obj -> Bool := fun xs obs => match xs, obs with
 | [.nils, .cl (.int .i64 n)], [] => growOk n
 | _, _ => false
noncomputable def SLTells : List V -> List Obj -> Tree := fun xs obs => match xs, obs with
 | [.cl (.agg a), .cl (.agg b), .cl (.int .i64 tag)], [] => .leaf (.ret [.cl (.bool true)] [])
 | _, _ => .fail
noncomputable def preLTells : List V -> List Obj -> Bool := fun xs obs => match xs, obs with
 | [.cl (.agg a), .cl (.agg b), .cl (.int .i64 tag)], [] => isT a && isT b
 | _, _ => false
noncomputable def SLBack : List V -> List Obj -> Tree := fun xs obs => match xs, obs with
 | [.cl (.agg a), .cl (.sli .u8 b)], [] => .leaf (.ret [.cl (.bool true)] [])
 | _, _ => .fail
noncomputable def preLBack : List V -> List Obj -> Bool := fun xs obs => match xs, obs with
 | [.cl (.agg a), .cl (.sli .u8 b)], [] => isT a && qfr b
 | _, _ => false
noncomputable def SLAll : List V -> List Obj -> Tree := fun xs obs => match xs, obs with
 | [.cl (.agg a), .cl (.agg b), .cl (.int .i64 pl), .cl (.sli .u8 more)], [] => .leaf (.ret [.cl (.bool true)] [])
 | _, _ => .fail
noncomputable def preLAll : List V -> List Obj -> Bool := fun xs obs => match xs, obs with
 | [.cl (.agg a), .cl (.agg b), .cl (.int .i64 pl), .cl (.sli .u8 more)], [] => isT a && isT b && qfr more
 | _, _ => false
noncomputable def QONums : List V -> List Obj -> Option (List (List CV)) := fun xs obs => match xs, obs with
 | [.ptr 0 0 0], [⟨.var [.cl (.sli .u8 b)], false⟩] => some (qq3 (oidNums b))
 | _, _ => none
noncomputable def preONums : List V -> List Obj -> Bool := fun xs obs => match xs, obs with
 | [.ptr 0 0 0], [⟨.var [.cl (.sli .u8 b)], false⟩] => qac b
 | _, _ => false
def okONums : List CV -> Bool := fun x => match x with
 | [.int .u32 _, .bool _] => true
 | _ => false
theorem okONums_of {x : List CV} (h : okONums x = true) : ∃ e1 e2, x = [.int .u32 e1, .bool e2] := by
 unfold okONums at h
 split at h
 ·exact ⟨_, _, rfl⟩
 ·cases h
noncomputable def DDCatch : DSpec := fun m xs obs => match m, xs, obs with
 | none, [.ptr 0 0 0, .ptr 1 0 0], [⟨.var [.cl (.int .i64 t), .cl (.sli .u8 bb), .cl (.slg 3 kk)], false⟩, ⟨.var [.cl (.int .i64 e)], false⟩] => some (.ret [] [some ⟨.var [.cl (.int .i64 t), .cl (.sli .u8 bb), .cl (.slg 3 kk)], false⟩, some ⟨.var [.cl (.int .i64 e)], false⟩])
 | some (.iface 47 (.agg [.int .i64 why])), [.ptr 0 0 0, .ptr 1 0 0], [⟨.var [.cl (.int .i64 t), .cl (.sli .u8 bb), .cl (.slg 3 kk)], false⟩, ⟨.var [.cl (.int .i64 e)], false⟩] => some (.ret [] [some ⟨.var [.cl (.int .i64 0), .nils, .nils], false⟩, some ⟨.var [.cl (.int .i64 why)], false⟩])
 | some (.iface 47 (.agg [.int .i64 why])), [.ptr 0 0 0, .ptr 1 0 0], [⟨.var [.cl (.int .i64 t), .nils, .nils], false⟩, ⟨.var [.cl (.int .i64 e)], false⟩] => some (.ret [] [some ⟨.var [.cl (.int .i64 0), .nils, .nils], false⟩, some ⟨.var [.cl (.int .i64 why)], false⟩])
 | _, _, _ => none
noncomputable def preDDCatch : Option CV -> List V -> List Obj -> Bool := fun m xs obs => match m, xs, obs with
 | none, [.ptr 0 0 0, .ptr 1 0 0], [⟨.var [.cl (.int .i64 t), .cl (.sli .u8 bb), .cl (.slg 3 kk)], false⟩, ⟨.var [.cl (.int .i64 e)], false⟩] => true
 | some (.iface 47 (.agg [.int .i64 why])), [.ptr 0 0 0, .ptr 1 0 0], [⟨.var [.cl (.int .i64 t), .cl (.sli .u8 bb), .cl (.slg 3 kk)], false⟩, ⟨.var [.cl (.int .i64 e)], false⟩] => true
 | some (.iface 47 (.agg [.int .i64 why])), [.ptr 0 0 0, .ptr 1 0 0], [⟨.var [.cl (.int .i64 t), .nils, .nils], false⟩, ⟨.var [.cl (.int .i64 e)], false⟩] => true
 | _, _, _ => false
end Go.Proofs.YtbgkadaidhgggaaDoorA
