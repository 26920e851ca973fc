/-
 Times as plain functions: what the stamp layer computes. Conditions: none.
-/
import Derived.Test.YtbgkadaidhgggaaDoorK3
import Derived.Test.YtbgkadaidhgggaaDoorProg
set_option linter.unusedVariables false
namespace Go.Proofs.YtbgkadaidhgggaaDoorA

def stOk (y : Int) : Bool := decide (1 <= y /\ y <= 20000)
def qe9 (y : Int) : Bool := decide (y % 4 = 0 /\ (y % 100 ≠ 0 \/ y % 400 = 0))
def qfd (y m : Int) : Int := if m = 2 then (if qe9 y = true then 29 else 28) else if m = 4 \/ m = 6 \/ m = 9 \/ m = 11 then 30 else 31
def qlt (y m d h i s : Int) : Bool := decide ((1 <= y /\ y <= 9999 /\ 1 <= m /\ m <= 12) /\ (1 <= d /\ d <= qfd y m) /\ 0 <= h /\ h < 24 /\ 0 <= i /\ i < 60 /\ 0 <= s /\ s < 60)
def qic (y m : Int) : Int := if 1 <= y /\ y <= 9999 /\ 1 <= m /\ m <= 12 then qfd y m else 0
def qbl (y : Int) : Int := (y - 1) * 365 + (y - 1) / 4 - (y - 1) / 100 + (y - 1) / 400
/-- the days ahead of a month in its year -/
def qbj (y m : Int) : Int := if m <= 2 then 31 * (m - 1) else (153 * (m - 3) + 2) / 5 + 59 + (if qe9 y = true then 1 else 0)
def qli (y m d h i s : Int) : Int := -62135596800 + (qbl y + qbj y m + (d - 1)) * 86400 + (h * 3600 + i * 60 + s)
def stI64 (t : Int) : Bool := decide (-9223372036854775808 <= t /\ t <= 9223372036854775807)
def stIn (t : Int) : Bool := decide (-62135596800 <= t /\ t <= 253402300799)
structure StD where
 d0 : Int
 d1 : Int
 d2 : Int
 d3 : Int
 d4 : Int
 d5 : Int
def qfb (t : Int) : StD :=
 let n := (t + 62135596800) / 86400
 let s := (t + 62135596800) % 86400
 let z := n + 306
 let doe := z % 146097
 let yoe := (doe - doe / 1460 + doe / 36524 - doe / 146096) / 365
 let doy := doe - (365 * yoe + yoe / 4 - yoe / 100)
 let mp := (5 * doy + 2) / 153
 let y := yoe + z / 146097 * 400
 let d := doy - (153 * mp + 2) / 5 + 1
 if 9 < mp then ⟨y + 1, mp - 9, d, s / 3600, s / 60 % 60, s % 60⟩ else ⟨y, mp + 3, d, s / 3600, s / 60 % 60, s % 60⟩
def stTwo (n : Int) : List Int := [IntKind.u8.wrap (IntKind.i64.wrap (48 + Int.tmod (IntKind.i64.wrap (Int.tdiv n 10)) 10)), IntKind.u8.wrap (IntKind.i64.wrap (48 + Int.tmod n 10))]
def stTextL (d : StD) : List Int := stTwo (d.d0 / 100) ++ stTwo d.d0 ++ stTwo d.d1 ++ stTwo d.d2 ++ stTwo d.d3 ++ stTwo d.d4 ++ stTwo d.d5 ++ [90]
def stText (t : Int) : ByteArray := if stIn t = true then qc9 (stTextL (qfb t)) else qc9 []
def qob (a b : Int) : Int := if a < 48 \/ 57 < a \/ b < 48 \/ 57 < b then -100000 else 10 * (a - 48) + (b - 48)
def qed (s : ByteArray) : Int := qob (bget s 0) (bget s 1)
def qvn : List Int -> Int -> Int
 | [], n => n
 | c :: r, n => if c < 48 \/ 57 < c then -1 else qvn r (n * 10 + (c - 48))
def qcz (s : ByteArray) : Int := qvn (bytesOf s) 0
def qol (s : ByteArray) : Int × Int :=
 if s.size = 15 /\ bget s 14 = 90 then
  let y := qob (bget s 2) (bget s 3) + 100 * qob (bget s 0) (bget s 1)
  let m := qob (bget s 4) (bget s 5)
  let d := qob (bget s 6) (bget s 7)
  let h := qob (bget s 8) (bget s 9)
  let i := qob (bget s 10) (bget s 11)
  let c := qob (bget s 12) (bget s 13)
  if qlt y m d h i c = true then (qli y m d h i c, 0) else (0, 1)
 else (0, 1)

end Go.Proofs.YtbgkadaidhgggaaDoorA

namespace Go.Proofs.YtbgkadaidhgggaaDoorA

abbrev LI := List Int
abbrev LC := List CV
abbrev OO := Option Out
abbrev KT := Ex -> St -> Option Out
abbrev qI (y : Int) : V := .cl (.int .i64 y)
abbrev qU (y : Int) : V := .cl (.int .u8 y)
abbrev qW (y : Int) : V := .cl (.int .u64 y)
abbrev qD (y : Int) : V := .cl (.int .u32 y)
abbrev qB (b : Bool) : V := .cl (.bool b)
abbrev qS (y : List Int) : V := .cl (.sli .u8 y)
abbrev qG (n : Nat) (y : List CV) : V := .cl (.slg n y)
/-! ### bytes -/
def byteB (x : Int) : Bool := decide (0 <= x /\ x <= 255)
noncomputable def qad (b : List Int) : Bool := shut (decide (b.length <= 1000000) && b.all byteB)
noncomputable def qmb (b : List Int) : Bool := shut (b.all byteB)
noncomputable def qif (b : List Int) : Bool := shut (decide (b.length <= 100000000))
noncomputable def u32Ok (n : Int) : Bool := shut (decide (0 <= n /\ n <= 4294967295))
noncomputable def qcb (n : Int) : Bool := shut (decide (0 <= n /\ n <= 1000))
def qfp (a b : List Int) : Bool := decide (a = b)
noncomputable def qbu (a b : List Int) : Bool := shut (qfp a b)
def qbp : List Int -> List Int -> Int
 | [], [] => 0
 | [], _ :: _ => -1
 | _ :: _, [] => 1
 | x :: a, y :: b => if x < y then -1 else if y < x then 1 else qbp a b
noncomputable def qfq (a b : List Int) : Int := shut (qbp a b)
noncomputable def qos (a b : List Int) : Bool := shut (decide (qbp a b < 0))
def qbc (b : List Int) : Int := b.foldl (fun n x => n * 256 + x) 0
noncomputable def bytesNum (b : List Int) : Int := shut (qbc b)

/-! ### tags, numbers, bits -/
def qa4 (tag : Int) : Bool := decide (tag = 48 \/ tag = 49 \/ (160 <= tag /\ tag <= 190))
noncomputable def qbe (tag : Int) : Bool := shut (qa4 tag)
def qbb (tag : Int) : Bool := decide (tag = 1 \/ tag = 2 \/ tag = 3 \/ tag = 4 \/ tag = 5 \/ tag = 6 \/ tag = 12 \/ tag = 24) || (qa4 tag || decide (128 <= tag /\ tag <= 158))
noncomputable def qcv (tag : Int) : Bool := shut (qbb tag)
def qau (n : Int) : Int := if n < 128 then 1 else if n < 256 then 2 else if n < 65536 then 3 else 4
noncomputable def qbr (n : Int) : Int := shut (qau n)
def qnf : List Int -> Bool
 | [] => false
 | [_] => true
 | x :: y :: _ => !(decide (x = 0 /\ y < 128)) && !(decide (x = 255 /\ 128 <= y))
noncomputable def qeq (b : List Int) : Bool := shut (qnf b)
def qq1 : List Int -> Bool
 | [] => false
 | [x] => decide (x = 0)
 | x :: y :: r => decide (x <= 7) && decide ((y :: r).getLast (by simp) % 2 ^ x.toNat = 0)
noncomputable def qg7 (b : List Int) : Bool := shut (qq1 b)

/-! ### characters -/
def u8At (l : List Int) (k : Nat) : Bool := match l[k]? with | some x => decide (128 <= x /\ x < 192) | none => false
noncomputable def u8Cont (b : List Int) (i : Int) : Bool := shut (u8At b i.toNat)
def qco : List Int -> Int
 | [] => 0
 | c :: r =>
  if c < 128 then 1
  else if 194 <= c /\ c <= 223 /\ u8At r 0 = true then 2
  else if 224 <= c /\ c <= 239 /\ u8At r 0 = true /\ u8At r 1 = true /\ (c = 224 -> 160 <= r.headD 0) /\ (c = 237 -> r.headD 0 < 160) then 3
  else if 240 <= c /\ c <= 244 /\ u8At r 0 = true /\ u8At r 1 = true /\ u8At r 2 = true /\ (c = 240 -> 144 <= r.headD 0) /\ (c = 244 -> r.headD 0 < 144) then 4
  else 0
noncomputable def u8Rune (b : List Int) (i : Int) : Int := shut (qco (b.drop i.toNat))
def qhh : Nat -> List Int -> Bool
 | 0, _ => true
 | n + 1, l => if l = [] then true else if qco l = 0 then false else qhh n (l.drop (qco l).toNat)
def qb4 (l : List Int) : Bool := qhh l.length l
noncomputable def u8Valid (b : List Int) : Bool := shut (qb4 b)
def u8WordC (l : List Int) : Int :=
 ((l.getD 0 0).toNat ||| (l.getD 1 0).toNat * 2 ^ 8 ||| (l.getD 2 0).toNat * 2 ^ 16 ||| (l.getD 3 0).toNat * 2 ^ 24 ||| (l.getD 4 0).toNat * 2 ^ 32 ||| (l.getD 5 0).toNat * 2 ^ 40 ||| (l.getD 6 0).toNat * 2 ^ 48 ||| (l.getD 7 0).toNat * 2 ^ 56 : Nat)
noncomputable def u8Word (b : List Int) : Int := shut (u8WordC b)
def qf0 : List Int := List.replicate 128 240 ++ List.replicate 66 241 ++ List.replicate 30 2 ++ [19] ++ List.replicate 12 3 ++ [35] ++ List.replicate 2 3 ++ [52] ++ List.replicate 3 4 ++ [68] ++ List.replicate 11 241
def qk0 : List CV := ([(128, 191), (160, 191), (128, 159), (144, 191), (128, 143)] ++ List.replicate 11 (0, 0) : List (Int × Int)).map fun p => .agg [.int .u8 p.1, .int .u8 p.2]
noncomputable def u8First : List Int := shut qf0
noncomputable def u8Accept : List CV := shut qk0
noncomputable def qb9 : Nat -> Option CV := fun g => cond (Nat.beq g 0) (some (.aggi 256 .u8 u8First)) (cond (Nat.beq g 1) (some (.agga 16 2 u8Accept)) none)

/-! ### identifiers -/
def qfo : List Int -> Bool
 | x :: y :: r => decide (r.length <= 18) && (decide (x < 2 /\ y < 40) || decide (x = 2 /\ y <= 4294967215))
 | _ => false
noncomputable def qoa (o : List Int) : Bool := shut (qfo o)
def qdg (n : Int) : List Int := if n < 80 then [n / 40, n % 40] else [2, n - 80]
noncomputable def qe6 (n : Int) : List Int := shut (qdg n)
/-- the number that bytes begin with, and how many bytes it has -/
def qbx : Int -> Int -> List Int -> Int × Int
 | _, _, [] => (0, 0)
 | n, i, c :: r => if (i = 0 /\ c = 128) \/ 33554431 < n then (0, 0) else if c < 128 then (n * 128 + c, i + 1) else qbx (n * 128 + (c - 128)) (i + 1) r
def qat (b : List Int) : Int × Int := qbx 0 0 b
noncomputable def qek (b : List Int) : Int × Int := shut (qat b)
def qdd : Nat -> List Int -> List (Int × Bool)
 | 0, _ => []
 | n + 1, b => if b = [] then [] else if (qat b).2 = 0 then [((qat b).1, false)] else ((qat b).1, true) :: qdd n (b.drop (qat b).2.toNat)
def qhx (b : List Int) : List (Int × Bool) := qdd b.length b
noncomputable def qvt (b : List Int) : List (Int × Bool) := shut (qhx b)
noncomputable def qtq (l : List (Int × Bool)) : List (List CV) := shut (l.map fun p => [.int .u32 p.1, .bool p.2])
def oidGo : List (Int × Bool) -> List Int -> Option (List Int)
 | [], o => some o
 | (n, ok) :: r, o => if ok = false \/ 20 < o.length then none else if o = [] then oidGo r (qdg n) else oidGo r (o ++ [n])
def qnd (b : List Int) : List Int × Int := match oidGo (qhx b) [] with
 | some o => if qfo o = true then (o, 0) else ([], 5)
 | none => ([], 5)
noncomputable def qd1 (b : List Int) : List Int × Int := shut (qnd b)

/-! ### values -/
def qcq (tag : Int) (b : List Int) : Bool :=
 if tag = 1 then decide (b = [0] \/ b = [255])
 else if tag = 2 then qnf b
 else if tag = 3 then qq1 b
 else if tag = 5 then decide (b = [])
 else if tag = 6 then decide ((qnd b).2 = 0)
 else if tag = 12 then qb4 b
 else if tag = 24 then decide ((qol (qc9 b)).2 = 0)
 else true
noncomputable def qc3 (tag : Int) (b : List Int) : Bool := shut (qcq tag b)
/-- a length, and how many bytes it has; 0: none -/
def qab : List Int -> Int × Int
 | [] => (0, 0)
 | c :: t => if c < 128 then (c, 1) else if c = 128 \/ 131 < c \/ (t.length : Int) < c - 128 then (0, 0)
  else if t.headD 0 = 0 \/ qbc (t.take (c - 128).toNat) < 128 then (0, 0) else (qbc (t.take (c - 128).toNat), 1 + (c - 128))
noncomputable def qny (b : List Int) : Int × Int := shut (qab b)
noncomputable def qph (l : List Int) : Bool := shut (!(decide ((qab l).2 = 0)))
noncomputable def qdl (l : List Int) : Int × List Int := shut ((qab l).1, l.drop (qab l).2.toNat)
def qja : List Int -> List Int
 | [] => []
 | c :: t => if c = 128 \/ 131 < c then t else t.drop (c - 128).toNat
noncomputable def qfg (l : List Int) : List Int := shut (qja l)
abbrev Nd := Int × List Int × List CV
def nd0 : Nd := (0, [], [])
def ndCV (x : Nd) : CV := .agg [.int .i64 x.1, .sli .u8 x.2.1, .slg 3 x.2.2]
def qa2 : List (List Int) -> Bool
 | a :: b :: r => decide (qbp a b <= 0) && qa2 (b :: r)
 | _ => true
def rowB (l : List Int) : Bool := decide (l.length <= 1000000) && l.all byteB
def rowCV : CV -> Bool
 | .sli .u8 l => rowB l
 | _ => false
noncomputable def qga (l : List CV) : Bool := shut (decide (l.length <= 1000000) && l.all rowCV)
noncomputable def qbi (l : List CV) : Bool := shut (qa2 (l.map qec))
noncomputable def qct (l : List CV) : List Int := shut (l.flatMap qec)
/-- the values that bytes are, one behind the other: an error, the values, their bytes -/
def qbq (f : List Int -> Int × Nd × Int) : Nat -> List Int -> Int × List Nd × List (List Int)
 | 0, _ => (0, [], [])
 | m + 1, b => if b = [] then (0, [], []) else
  if (f b).1 = 0 then
   let p := qbq f m (b.drop (f b).2.2.toNat)
   (p.1, (f b).2.1 :: p.2.1, b.take (f b).2.2.toNat :: p.2.2)
  else ((f b).1, [], [])
/-- the value that bytes begin with: an error, the value, how many bytes it has -/
def qax : Nat -> List Int -> Int × Nd × Int
 | 0, _ => (3, nd0, 0)
 | n + 1, b => match b with
  | [] => (1, nd0, 0)
  | t :: r => if qbb t = false then (4, nd0, 0)
   else if (qab r).2 = 0 \/ (r.length : Int) - (qab r).2 < (qab r).1 then (1, nd0, 0)
   else
    let inside := (r.drop (qab r).2.toNat).take (qab r).1.toNat
    let used := 1 + (qab r).2 + (qab r).1
    if qa4 t = false then (if qcq t inside = true then (0, (t, inside, []), used) else (5, nd0, 0))
    else
     let p := qbq (qax n) inside.length inside
     if p.1 = 0 then (if t = 49 /\ qa2 p.2.2 = false then (6, nd0, 0) else (0, (t, [], p.2.1.map ndCV), used)) else (p.1, nd0, 0)
noncomputable def qeo (b : List Int) (d : Int) : Nd × Int × Int := shut (let p := qax d.toNat b; if p.1 = 0 then (p.2.1, p.2.2, 0) else (nd0, 0, p.1))
def qg0 (b : List Int) : Nd × Int := let p := qax 32 b; if p.1 = 0 then (if p.2.2 < b.length then (nd0, 7) else (p.2.1, 0)) else (nd0, p.1)
noncomputable def qar (b : List Int) : Nd × Int := shut (qg0 b)
/-- where a reader stands -/
def qib (l : List Int) (d : Int) : List Int :=
 if d <= 0 then l else match l with
  | [] => []
  | t :: r => if qbb t = false then r
   else if (qab r).2 = 0 then qja r
   else if (r.length : Int) - (qab r).2 < (qab r).1 then r.drop (qab r).2.toNat
   else r.drop ((qab r).2 + (qab r).1).toNat
noncomputable def qlh (l : List Int) (d : Int) : Int × Nd × List Int := shut ((qax d.toNat l).1, (qax d.toNat l).2.1, qib l d)
noncomputable def qa6 (tag : Int) (b : List Int) (d : Int) : Int × Nd := shut (
 let p := qbq (qax (d - 1).toNat) b.length b
 if p.1 = 0 then (if tag = 49 /\ qa2 p.2.2 = false then (6, nd0) else (0, (tag, [], p.2.1.map ndCV))) else (p.1, nd0))

/-! ### are two the same? -/
def isNf : Nat -> List CV -> Bool
 | 0, _ => false
 | n + 1, [.int .i64 _, .sli .u8 b, .slg 3 l] => decide (b.length <= 100000000) && (decide (l.length <= 100000000) && l.all fun c => match c with | .agg x => isNf n x | _ => false)
 | _ + 1, _ => false
def isNk (n : Nat) : CV -> Bool
 | .agg x => isNf n x
 | _ => false
noncomputable def isNr (n : Nat) (l : List CV) : Bool := shut (isNf n l)
noncomputable def isN (l : List CV) : Bool := shut (@decide (∃ n, isNf n l = true) (Classical.propDecidable _))
noncomputable def isNsr (n : Nat) (l : List CV) : Bool := shut (decide (l.length <= 100000000) && l.all (isNk n))
noncomputable def isNs (l : List CV) : Bool := shut (@decide (l.length <= 100000000 /\ ∃ n, l.all (isNk n) = true) (Classical.propDecidable _))
noncomputable def qii (a b : List CV) : Bool := shut (@decide (a = b) (Classical.propDecidable _))
noncomputable def qut (a b : List CV) : Bool := shut (@decide (a = b) (Classical.propDecidable _))

end Go.Proofs.YtbgkadaidhgggaaDoorA

namespace Go.Proofs.YtbgkadaidhgggaaDoorA

noncomputable def growOk (n : Int) : Bool := shut (decide (0 <= n /\ n <= 100000000))
noncomputable def noInts : List Int := shut []
noncomputable def qm3 (n : Int) : Bool := shut (decide (0 <= n /\ n <= 3000))
def qcr (tag n : Int) : List Int := tag :: (if n < 128 then [n] else if n < 256 then [129, n] else if n < 65536 then [130, n / 256, n % 256] else [131, n / 65536, n / 256 % 256, n % 256])
noncomputable def qcp (tag n : Int) : List Int := shut (qcr tag n)
noncomputable def qlk (tag n : Int) : Bool := shut (decide ((0 <= tag /\ tag <= 255) /\ 0 <= n /\ n < 16777216))
noncomputable def qo0 (l : List CV) : Bool := shut (decide (l.length <= 1000000) && (l.all rowCV && decide ((l.flatMap qec).length <= 1000000)))

/-! ### a value's places, by its rank -/
/-- a value of any size -/
def isTf : Nat -> List CV -> Bool
 | 0, _ => false
 | n + 1, [.int .i64 _, .sli .u8 b, .slg 3 l] => b.all byteB && l.all fun c => match c with | .agg x => isTf n x | _ => false
 | _ + 1, _ => false
noncomputable def isTr (n : Nat) (a : List CV) : Bool := shut (isTf n a)
noncomputable def isT (a : List CV) : Bool := shut (@decide (∃ n, isTf n a = true) (Classical.propDecidable _))
def qih (f : List CV -> Int -> Int) : List CV -> Int -> Int
 | [], x => x
 | c :: r, x => if x < 0 then x else qih f r (f (cell1 c) x)
def qiw : Nat -> List CV -> Int -> Int
 | n + 1, [.int .i64 _, .sli .u8 b, .slg 3 l], x => qih (qiw n) l (x - 1 - min (b.length : Int) 1048576)
 | _, _, x => x
/-- how much there is -/
def qft : Nat -> List CV -> Nat
 | n + 1, [.int .i64 _, .sli .u8 b, .slg 3 l] => 1 + b.length + (l.map fun c => qft n (cell1 c)).sum
 | _, _ => 0
/-- can it be? -/
def okF : Nat -> Nat -> List CV -> Bool
 | n + 1, d + 1, [.int .i64 t, .sli .u8 b, .slg 3 l] => qbb t && (if qa4 t = true then decide (b = []) && l.all fun c => okF n d (cell1 c) else decide (l = []) && qcq t b)
 | _, _, _ => false
/-- its bytes, and whether the sets in it are in order -/
def qam : Nat -> List CV -> List Int × Bool
 | n + 1, [.int .i64 t, .sli .u8 b, .slg 3 l] =>
  if qa4 t = true then
   let ks := l.map fun c => qam n (cell1 c)
   let bs := ks.map (·.1)
   (qcr t bs.flatten.length ++ bs.flatten, ks.all (·.2) && (!(decide (t = 49)) || qa2 bs))
  else (qcr t b.length ++ b, true)
 | _, _ => ([], false)
noncomputable def rkOf (a : List CV) : Nat := @dite _ (∃ n, isTf n a = true) (Classical.propDecidable _) (fun h => Classical.choose h) (fun _ => 0)
noncomputable def qie (a : List CV) (left : Int) : Int := shut (qiw (rkOf a) a left)
noncomputable def q1s (a : List CV) (deep : Int) : Int := shut (if okF (rkOf a) deep.toNat a = true then ((qam (rkOf a) a).1.length : Int) else -1)
noncomputable def isSr (n : Nat) (a : List CV) : Bool := shut (isTf n a && (decide (qft n a <= 3000)))
noncomputable def isS (a : List CV) : Bool := shut (@decide (∃ n, isTf n a = true /\ qft n a <= 3000) (Classical.propDecidable _))
noncomputable def isWr (n : Nat) (a : List CV) : Bool := shut (@decide (isTf n a = true /\ qft n a <= 3000 /\ ∃ d, okF n d a = true) (Classical.propDecidable _))
noncomputable def isW (a : List CV) : Bool := shut (@decide (∃ n, isTf n a = true /\ qft n a <= 3000 /\ ∃ d, okF n d a = true) (Classical.propDecidable _))
noncomputable def qi9 (a : List CV) : List Int × Bool := shut (if (qam (rkOf a) a).2 = true then ((qam (rkOf a) a).1, true) else ([], false))
noncomputable def qey (a : List CV) (deep : Int) : List Int × Bool := shut (if okF (rkOf a) deep.toNat a = true /\ (qam (rkOf a) a).2 = true then ((qam (rkOf a) a).1, true) else ([], false))
noncomputable def qa3 (a : List CV) : List Int × Int := shut (if okF (rkOf a) 32 a = true /\ (qam (rkOf a) a).2 = true then ((qam (rkOf a) a).1, 0) else ([], 1))
noncomputable def qq8 (a : List CV) : Bool := shut (decide (okF (rkOf a) 32 a = true /\ (qam (rkOf a) a).2 = true))
noncomputable def zeros (n : Int) : List Int := shut (List.replicate n.toNat 0)
end Go.Proofs.YtbgkadaidhgggaaDoorA

set_option linter.unusedSimpArgs false
set_option maxRecDepth 100000
namespace Go.Proofs.YtbgkadaidhgggaaDoorA
noncomputable def SDigits : List V -> List Obj -> Tree := fun xs obs => match xs, obs with
 | [.cl (.str s)], [] => .leaf (.ret [.cl (.int .i64 (qed s))] [])
 | _, _ => .fail
noncomputable def q47 : List V -> List Obj -> Bool := fun xs obs => match xs, obs with
 | [.cl (.str s)], [] => decide (2 <= s.size)
 | _, _ => false
noncomputable def SDLeap : List V -> List Obj -> Tree := fun xs obs => match xs, obs with
 | [.cl (.aggi 6 .i64 [d0, d1, d2, d3, d4, d5])], [] => .leaf (.ret [.cl (.bool (qe9 d0))] [])
 | _, _ => .fail
noncomputable def preDLeap : List V -> List Obj -> Bool := fun xs obs => match xs, obs with
 | [.cl (.aggi 6 .i64 [d0, d1, d2, d3, d4, d5])], [] => stOk d0
 | _, _ => false
noncomputable def SDDays : List V -> List Obj -> Tree := fun xs obs => match xs, obs with
 | [.cl (.aggi 6 .i64 [d0, d1, d2, d3, d4, d5])], [] => .leaf (.ret [.cl (.int .i64 (qfd d0 d1))] [])
 | _, _ => .fail
noncomputable def preDDays : List V -> List Obj -> Bool := fun xs obs => match xs, obs with
 | [.cl (.aggi 6 .i64 [d0, d1, d2, d3, d4, d5])], [] => stOk d0
 | _, _ => false
noncomputable def SDFit : List V -> List Obj -> Tree := fun xs obs => match xs, obs with
 | [.cl (.aggi 6 .i64 [d0, d1, d2, d3, d4, d5])], [] => .leaf (.ret [.cl (.bool (qlt d0 d1 d2 d3 d4 d5))] [])
 | _, _ => .fail
noncomputable def preDFit : List V -> List Obj -> Bool := fun xs obs => match xs, obs with
 | [.cl (.aggi 6 .i64 [d0, d1, d2, d3, d4, d5])], [] => true
 | _, _ => false
noncomputable def SDSecs : List V -> List Obj -> Tree := fun xs obs => match xs, obs with
 | [.cl (.aggi 6 .i64 [d0, d1, d2, d3, d4, d5])], [] => .leaf (.ret [.cl (.int .i64 (qli d0 d1 d2 d3 d4 d5))] [])
 | _, _ => .fail
noncomputable def preDSecs : List V -> List Obj -> Bool := fun xs obs => match xs, obs with
 | [.cl (.aggi 6 .i64 [d0, d1, d2, d3, d4, d5])], [] => qlt d0 d1 d2 d3 d4 d5
 | _, _ => false
noncomputable def SSRead : List V -> List Obj -> Tree := fun xs obs => match xs, obs with
 | [.cl (.str s)], [] => .leaf (.ret [.cl (.int .i64 ((qol s).1)), .cl (.int .i64 ((qol s).2))] [])
 | _, _ => .fail
noncomputable def q9z : List V -> List Obj -> Bool := fun xs obs => match xs, obs with
 | [.cl (.str s)], [] => true
 | _, _ => false
noncomputable def SRLeap : List V -> List Obj -> Tree := fun xs obs => match xs, obs with
 | [.cl (.int .i64 y)], [] => .leaf (.ret [.cl (.bool (qe9 y))] [])
 | _, _ => .fail
noncomputable def preRLeap : List V -> List Obj -> Bool := fun xs obs => match xs, obs with
 | [.cl (.int .i64 y)], [] => stOk y
 | _, _ => false
noncomputable def SRDays : List V -> List Obj -> Tree := fun xs obs => match xs, obs with
 | [.cl (.int .i64 y), .cl (.int .i64 m)], [] => .leaf (.ret [.cl (.int .i64 (qic y m))] [])
 | _, _ => .fail
noncomputable def preRDays : List V -> List Obj -> Bool := fun xs obs => match xs, obs with
 | [.cl (.int .i64 y), .cl (.int .i64 m)], [] => true
 | _, _ => false
noncomputable def SRYears : List V -> List Obj -> Tree := fun xs obs => match xs, obs with
 | [.cl (.int .i64 y)], [] => .leaf (.ret [.cl (.int .i64 (qbl y))] [])
 | _, _ => .fail
noncomputable def q6d : List V -> List Obj -> Bool := fun xs obs => match xs, obs with
 | [.cl (.int .i64 y)], [] => stOk y
 | _, _ => false
noncomputable def SRNumber : List V -> List Obj -> Tree := fun xs obs => match xs, obs with
 | [.cl (.str s)], [] => .leaf (.ret [.cl (.int .i64 (qcz s))] [])
 | _, _ => .fail
noncomputable def qzi : List V -> List Obj -> Bool := fun xs obs => match xs, obs with
 | [.cl (.str s)], [] => decide (s.size <= 18)
 | _, _ => false
noncomputable def SRRead : List V -> List Obj -> Tree := fun xs obs => match xs, obs with
 | [.cl (.str s)], [] => .leaf (.ret [.cl (.int .i64 ((qol s).1)), .cl (.int .i64 ((qol s).2))] [])
 | _, _ => .fail
noncomputable def preRRead : List V -> List Obj -> Bool := fun xs obs => match xs, obs with
 | [.cl (.str s)], [] => true
 | _, _ => false
noncomputable def SDBoxed : List V -> List Obj -> Tree := fun xs obs => match xs, obs with
 | [.cl (.int .i64 tag)], [] => .leaf (.ret [.cl (.bool (qbe tag))] [])
 | _, _ => .fail
noncomputable def qke : List V -> List Obj -> Bool := fun xs obs => match xs, obs with
 | [.cl (.int .i64 tag)], [] => true
 | _, _ => false
noncomputable def SRBoxed : List V -> List Obj -> Tree := fun xs obs => match xs, obs with
 | [.cl (.int .i64 tag)], [] => .leaf (.ret [.cl (.bool (qbe tag))] [])
 | _, _ => .fail
noncomputable def qq9 : List V -> List Obj -> Bool := fun xs obs => match xs, obs with
 | [.cl (.int .i64 tag)], [] => true
 | _, _ => false
noncomputable def SDKnown : List V -> List Obj -> Tree := fun xs obs => match xs, obs with
 | [.cl (.int .i64 tag)], [] => .leaf (.ret [.cl (.bool (qcv tag))] [])
 | _, _ => .fail
noncomputable def qw7 : List V -> List Obj -> Bool := fun xs obs => match xs, obs with
 | [.cl (.int .i64 tag)], [] => true
 | _, _ => false
noncomputable def SRTagged : List V -> List Obj -> Tree := fun xs obs => match xs, obs with
 | [.cl (.int .i64 tag)], [] => .leaf (.ret [.cl (.bool (qcv tag))] [])
 | _, _ => .fail
noncomputable def qzf : List V -> List Obj -> Bool := fun xs obs => match xs, obs with
 | [.cl (.int .i64 tag)], [] => true
 | _, _ => false
noncomputable def qng : List V -> List Obj -> Tree := fun xs obs => match xs, obs with
 | [.cl (.int .i64 n)], [] => .leaf (.ret [.cl (.int .i64 (qbr n))] [])
 | _, _ => .fail
noncomputable def qla : List V -> List Obj -> Bool := fun xs obs => match xs, obs with
 | [.cl (.int .i64 n)], [] => true
 | _, _ => false
noncomputable def SDNumber : List V -> List Obj -> Tree := fun xs obs => match xs, obs with
 | [.cl (.sli .u8 b)], [] => .leaf (.ret [.cl (.bool (qeq b))] [])
 | _, _ => .fail
noncomputable def qzk : List V -> List Obj -> Bool := fun xs obs => match xs, obs with
 | [.cl (.sli .u8 b)], [] => qad b
 | _, _ => false
noncomputable def q3w : List V -> List Obj -> Tree := fun xs obs => match xs, obs with
 | [.cl (.sli .u8 b)], [] => .leaf (.ret [.cl (.bool (qeq b))] [])
 | _, _ => .fail
noncomputable def qym : List V -> List Obj -> Bool := fun xs obs => match xs, obs with
 | [.cl (.sli .u8 b)], [] => qad b
 | _, _ => false
noncomputable def SDStrip : List V -> List Obj -> Tree := fun xs obs => match xs, obs with
 | [.cl (.sli .u8 b)], [] => .leaf (.ret [.cl (.bool (qg7 b))] [])
 | _, _ => .fail
noncomputable def q5r : List V -> List Obj -> Bool := fun xs obs => match xs, obs with
 | [.cl (.sli .u8 b)], [] => qad b
 | _, _ => false
noncomputable def qwo : List V -> List Obj -> Tree := fun xs obs => match xs, obs with
 | [.cl (.sli .u8 b)], [] => .leaf (.ret [.cl (.bool (qg7 b))] [])
 | _, _ => .fail
noncomputable def qvi : List V -> List Obj -> Bool := fun xs obs => match xs, obs with
 | [.cl (.sli .u8 b)], [] => qad b
 | _, _ => false
noncomputable def SRCont : List V -> List Obj -> Tree := fun xs obs => match xs, obs with
 | [.cl (.sli .u8 b), .cl (.int .i64 i)], [] => .leaf (.ret [.cl (.bool (u8Cont b i))] [])
 | _, _ => .fail
noncomputable def preRCont : List V -> List Obj -> Bool := fun xs obs => match xs, obs with
 | [.cl (.sli .u8 b), .cl (.int .i64 i)], [] => decide (0 <= i)
 | _, _ => false
noncomputable def SRRune : List V -> List Obj -> Tree := fun xs obs => match xs, obs with
 | [.cl (.sli .u8 b), .cl (.int .i64 i)], [] => .leaf (.ret [.cl (.int .i64 (u8Rune b i))] [])
 | _, _ => .fail
noncomputable def q9p : List V -> List Obj -> Bool := fun xs obs => match xs, obs with
 | [.cl (.sli .u8 b), .cl (.int .i64 i)], [] => qad b && decide (0 <= i /\ i < b.length)
 | _, _ => false
noncomputable def SRUtf8 : List V -> List Obj -> Tree := fun xs obs => match xs, obs with
 | [.cl (.sli .u8 b)], [] => .leaf (.ret [.cl (.bool (u8Valid b))] [])
 | _, _ => .fail
noncomputable def q9y : List V -> List Obj -> Bool := fun xs obs => match xs, obs with
 | [.cl (.sli .u8 b)], [] => qad b
 | _, _ => false
noncomputable def SOFit : List V -> List Obj -> Tree := fun xs obs => match xs, obs with
 | [.cl (.sli .u32 o)], [] => .leaf (.ret [.cl (.bool (qoa o))] [])
 | _, _ => .fail
noncomputable def preOFit : List V -> List Obj -> Bool := fun xs obs => match xs, obs with
 | [.cl (.sli .u32 o)], [] => true
 | _, _ => false
noncomputable def SR2Fit : List V -> List Obj -> Tree := fun xs obs => match xs, obs with
 | [.cl (.sli .u32 o)], [] => .leaf (.ret [.cl (.bool (qoa o))] [])
 | _, _ => .fail
noncomputable def preR2Fit : List V -> List Obj -> Bool := fun xs obs => match xs, obs with
 | [.cl (.sli .u32 o)], [] => true
 | _, _ => false
noncomputable def SR2First : List V -> List Obj -> Tree := fun xs obs => match xs, obs with
 | [.cl (.int .u64 n)], [] => .leaf (.ret [.cl (.sli .u32 (qe6 n))] [])
 | _, _ => .fail
noncomputable def qyr : List V -> List Obj -> Bool := fun xs obs => match xs, obs with
 | [.cl (.int .u64 n)], [] => u32Ok n
 | _, _ => false
noncomputable def SONumber : List V -> List Obj -> Tree := fun xs obs => match xs, obs with
 | [.cl (.sli .u8 b)], [] => .leaf (.ret [.cl (.int .u32 ((qek b).1)), .cl (.int .i64 ((qek b).2))] [])
 | _, _ => .fail
noncomputable def q0m : List V -> List Obj -> Bool := fun xs obs => match xs, obs with
 | [.cl (.sli .u8 b)], [] => qad b
 | _, _ => false
noncomputable def SONumbers : List V -> List Obj -> Tree := fun xs obs => match xs, obs with
 | [.cl (.sli .u8 b)], [] => .leaf (.ret [.fn (.func 75) [] [.ptr 0 0 0]] [some ⟨.var [.cl (.sli .u8 b)], false⟩])
 | _, _ => .fail
noncomputable def qvm : List V -> List Obj -> Bool := fun xs obs => match xs, obs with
 | [.cl (.sli .u8 b)], [] => true
 | _, _ => false
noncomputable def SOParse : List V -> List Obj -> Tree := fun xs obs => match xs, obs with
 | [.cl (.sli .u8 b)], [] => .leaf (.ret [.cl (.sli .u32 ((qd1 b).1)), .cl (.int .i64 ((qd1 b).2))] [])
 | _, _ => .fail
noncomputable def q6n : List V -> List Obj -> Bool := fun xs obs => match xs, obs with
 | [.cl (.sli .u8 b)], [] => qad b
 | _, _ => false
noncomputable def SR2Parse : List V -> List Obj -> Tree := fun xs obs => match xs, obs with
 | [.cl (.sli .u8 b)], [] => .leaf (.ret [.cl (.sli .u32 ((qd1 b).1)), .cl (.int .i64 ((qd1 b).2))] [])
 | _, _ => .fail
noncomputable def qyz : List V -> List Obj -> Bool := fun xs obs => match xs, obs with
 | [.cl (.sli .u8 b)], [] => qad b
 | _, _ => false
noncomputable def SR1Same : List V -> List Obj -> Tree := fun xs obs => match xs, obs with
 | [.cl (.sli .u8 a), .cl (.sli .u8 b)], [] => .leaf (.ret [.cl (.bool (qbu a b))] [])
 | _, _ => .fail
noncomputable def qra : List V -> List Obj -> Bool := fun xs obs => match xs, obs with
 | [.cl (.sli .u8 a), .cl (.sli .u8 b)], [] => qif a
 | _, _ => false
noncomputable def SSClone : List V -> List Obj -> Tree := fun xs obs => match xs, obs with
 | [.cl (.sli .u8 b)], [] => .leaf (.ret [.cl (.sli .u8 b)] [])
 | _, _ => .fail
noncomputable def q6k : List V -> List Obj -> Bool := fun xs obs => match xs, obs with
 | [.cl (.sli .u8 b)], [] => qif b
 | _, _ => false
noncomputable def SR1Num : List V -> List Obj -> Tree := fun xs obs => match xs, obs with
 | [.cl (.sli .u8 b)], [] => .leaf (.ret [.cl (.int .u64 (bytesNum b))] [])
 | _, _ => .fail
noncomputable def preR1Num : List V -> List Obj -> Bool := fun xs obs => match xs, obs with
 | [.cl (.sli .u8 b)], [] => qad b && decide (b.length <= 7)
 | _, _ => false
noncomputable def SRLength : List V -> List Obj -> Tree := fun xs obs => match xs, obs with
 | [.cl (.sli .u8 b)], [] => .leaf (.ret [.cl (.int .i64 ((qny b).1)), .cl (.int .i64 ((qny b).2))] [])
 | _, _ => .fail
noncomputable def preRLength : List V -> List Obj -> Bool := fun xs obs => match xs, obs with
 | [.cl (.sli .u8 b)], [] => qad b
 | _, _ => false
noncomputable def SR4Less : List V -> List Obj -> Tree := fun xs obs => match xs, obs with
 | [.cl (.sli .u8 a), .cl (.sli .u8 b)], [] => .leaf (.ret [.cl (.bool (qos a b))] [])
 | _, _ => .fail
noncomputable def q5y : List V -> List Obj -> Bool := fun xs obs => match xs, obs with
 | [.cl (.sli .u8 a), .cl (.sli .u8 b)], [] => qif a
 | _, _ => false
noncomputable def SUWord : List V -> List Obj -> Tree := fun xs obs => match xs, obs with
 | [.cl (.sli .u8 b)], [] => .leaf (.ret [.cl (.int .u64 (u8Word b))] [])
 | _, _ => .fail
noncomputable def preUWord : List V -> List Obj -> Bool := fun xs obs => match xs, obs with
 | [.cl (.sli .u8 b)], [] => qad b && decide (8 <= b.length)
 | _, _ => false
noncomputable def SUValid : List V -> List Obj -> Tree := fun xs obs => match xs, obs with
 | [.cl (.sli .u8 b)], [] => .leaf (.ret [.cl (.bool (u8Valid b))] [])
 | _, _ => .fail
noncomputable def q6h : List V -> List Obj -> Bool := fun xs obs => match xs, obs with
 | [.cl (.sli .u8 b)], [] => qad b
 | _, _ => false
noncomputable def SRSame : List V -> List Obj -> Tree := fun xs obs => match xs, obs with
 | [.cl (.agg a), .cl (.agg b)], [] => .leaf (.ret [.cl (.bool (qii a b))] [])
 | _, _ => .fail
noncomputable def q1r : List V -> List Obj -> Bool := fun xs obs => match xs, obs with
 | [.cl (.agg a), .cl (.agg b)], [] => isN a && isN b
 | _, _ => false
noncomputable def qnz (rk : Nat) : List V -> List Obj -> Bool := fun xs obs => match xs, obs with
 | [.cl (.agg a), .cl (.agg b)], [] => isNr rk a && isN b
 | _, _ => false
noncomputable def SDFits : List V -> List Obj -> Tree := fun xs obs => match xs, obs with
 | [.cl (.int .i64 tag), .cl (.sli .u8 b)], [] => .leaf (.ret [.cl (.bool (qc3 tag b))] [])
 | _, _ => .fail
noncomputable def q3l : List V -> List Obj -> Bool := fun xs obs => match xs, obs with
 | [.cl (.int .i64 tag), .cl (.sli .u8 b)], [] => qad b
 | _, _ => false
noncomputable def SRFits : List V -> List Obj -> Tree := fun xs obs => match xs, obs with
 | [.cl (.int .i64 tag), .cl (.sli .u8 b)], [] => .leaf (.ret [.cl (.bool (qc3 tag b))] [])
 | _, _ => .fail
noncomputable def q9o : List V -> List Obj -> Bool := fun xs obs => match xs, obs with
 | [.cl (.int .i64 tag), .cl (.sli .u8 b)], [] => qad b
 | _, _ => false
noncomputable def SR4Sorted : List V -> List Obj -> Tree := fun xs obs => match xs, obs with
 | [.cl (.slg 1 l)], [] => .leaf (.ret [.cl (.bool (qbi l))] [])
 | _, _ => .fail
noncomputable def qu3 : List V -> List Obj -> Bool := fun xs obs => match xs, obs with
 | [.cl (.slg 1 l)], [] => qga l
 | _, _ => false
noncomputable def SBACompare : List V -> List Obj -> Tree := fun xs obs => match xs, obs with
 | [.cl (.sli .u8 a), .cl (.sli .u8 b)], [] => .leaf (.ret [.cl (.int .i64 (qfq a b))] [])
 | _, _ => .fail
noncomputable def ql0 : List V -> List Obj -> Bool := fun xs obs => match xs, obs with
 | [.cl (.sli .u8 a), .cl (.sli .u8 b)], [] => qad a && qad b
 | _, _ => false
noncomputable def SBCompare : List V -> List Obj -> Tree := fun xs obs => match xs, obs with
 | [.cl (.sli .u8 a), .cl (.sli .u8 b)], [] => .leaf (.ret [.cl (.int .i64 (qfq a b))] [])
 | _, _ => .fail
noncomputable def qvf : List V -> List Obj -> Bool := fun xs obs => match xs, obs with
 | [.cl (.sli .u8 a), .cl (.sli .u8 b)], [] => qad a && qad b
 | _, _ => false
noncomputable def SOLess : List V -> List Obj -> Tree := fun xs obs => match xs, obs with
 | [.cl (.sli .u8 a), .cl (.sli .u8 b)], [] => .leaf (.ret [.cl (.bool (decide (qfq a b <= 0)))] [])
 | _, _ => .fail
noncomputable def q4k : List V -> List Obj -> Bool := fun xs obs => match xs, obs with
 | [.cl (.sli .u8 a), .cl (.sli .u8 b)], [] => qad a && qad b
 | _, _ => false
noncomputable def SOSteps : List V -> List Obj -> Tree := fun xs obs => match xs, obs with
 | [.cl (.slg 1 l), .cl (.fn (.func 59) [] [])], [] => .leaf (.ret [.cl (.bool (qbi l))] [])
 | _, _ => .fail
noncomputable def q6r : List V -> List Obj -> Bool := fun xs obs => match xs, obs with
 | [.cl (.slg 1 l), .cl (.fn (.func 59) [] [])], [] => qga l
 | _, _ => false
noncomputable def SOSorted : List V -> List Obj -> Tree := fun xs obs => match xs, obs with
 | [.cl (.slg 1 l)], [] => .leaf (.ret [.cl (.bool (qbi l))] [])
 | _, _ => .fail
noncomputable def qtu : List V -> List Obj -> Bool := fun xs obs => match xs, obs with
 | [.cl (.slg 1 l)], [] => qga l
 | _, _ => false
noncomputable def SRReadN : List V -> List Obj -> Tree := fun xs obs => match xs, obs with
 | [.cl (.sli .u8 b), .cl (.int .i64 deep)], [] => .leaf (.ret [.cl (.agg [.int .i64 ((qeo b deep).1.1), .sli .u8 ((qeo b deep).1.2.1), .slg 3 ((qeo b deep).1.2.2)]), .cl (.int .i64 ((qeo b deep).2.1)), .cl (.int .i64 ((qeo b deep).2.2))] [])
 | _, _ => .fail
noncomputable def preRReadN : List V -> List Obj -> Bool := fun xs obs => match xs, obs with
 | [.cl (.sli .u8 b), .cl (.int .i64 deep)], [] => qad b && qcb deep
 | _, _ => false
noncomputable def preRRReadN (rk : Nat) : List V -> List Obj -> Bool := fun xs obs => match xs, obs with
 | [.cl (.sli .u8 b), .cl (.int .i64 deep)], [] => qad b && (qcb deep && decide (deep.toNat < rk))
 | _, _ => false
noncomputable def SRParse : List V -> List Obj -> Tree := fun xs obs => match xs, obs with
 | [.cl (.sli .u8 b)], [] => .leaf (.ret [.cl (.agg [.int .i64 ((qar b).1.1), .sli .u8 ((qar b).1.2.1), .slg 3 ((qar b).1.2.2)]), .cl (.int .i64 ((qar b).2))] [])
 | _, _ => .fail
noncomputable def preRParse : List V -> List Obj -> Bool := fun xs obs => match xs, obs with
 | [.cl (.sli .u8 b)], [] => qad b
 | _, _ => false
noncomputable def SDMust : List V -> List Obj -> Tree := fun xs obs => match xs, obs with
 | [.cl (.bool true), .cl (.int .i64 e)], [] => .leaf (.ret [] [])
 | [.cl (.bool false), .cl (.int .i64 e)], [] => .ite (true) (.leaf (.pan (.iface 47 (.agg [.int .i64 e])) [])) (.leaf (.ret [] []))
 | _, _ => .fail
noncomputable def qow : List V -> List Obj -> Bool := fun xs obs => match xs, obs with
 | [.cl (.bool true), .cl (.int .i64 e)], [] => true
 | [.cl (.bool false), .cl (.int .i64 e)], [] => true
 | _, _ => false
noncomputable def SDNext : List V -> List Obj -> Tree := fun xs obs => match xs, obs with
 | [.ptr 0 0 0], [⟨.var [.cl (.sli .u8 l), .cl (.int .i64 d)], false⟩] => .ite (l.isEmpty) (.leaf (.pan (.iface 47 (.agg [.int .i64 1])) [some ⟨.var [.cl (.sli .u8 l), .cl (.int .i64 d)], false⟩])) (.leaf (.ret [.cl (.int .i64 (l.headD 0))] [some ⟨.var [.cl (.sli .u8 l.tail), .cl (.int .i64 d)], false⟩]))
 | _, _ => .fail
noncomputable def q01 : List V -> List Obj -> Bool := fun xs obs => match xs, obs with
 | [.ptr 0 0 0], [⟨.var [.cl (.sli .u8 l), .cl (.int .i64 d)], false⟩] => qad l
 | _, _ => false
noncomputable def SDLength : List V -> List Obj -> Tree := fun xs obs => match xs, obs with
 | [.ptr 0 0 0], [⟨.var [.cl (.sli .u8 l), .cl (.int .i64 d)], false⟩] => .ite (!(qph l)) (.leaf (.pan (.iface 47 (.agg [.int .i64 1])) [some ⟨.var [.cl (.sli .u8 (qfg l)), .cl (.int .i64 d)], false⟩])) (.leaf (.ret [.cl (.int .i64 ((qdl l).1))] [some ⟨.var [.cl (.sli .u8 ((qdl l).2)), .cl (.int .i64 d)], false⟩]))
 | _, _ => .fail
noncomputable def qz7 : List V -> List Obj -> Bool := fun xs obs => match xs, obs with
 | [.ptr 0 0 0], [⟨.var [.cl (.sli .u8 l), .cl (.int .i64 d)], false⟩] => qad l
 | _, _ => false
noncomputable def SDValue : List V -> List Obj -> Tree := fun xs obs => match xs, obs with
 | [.ptr 0 0 0], [⟨.var [.cl (.sli .u8 l), .cl (.int .i64 d)], false⟩] => .ite (!(decide ((qlh l d).1 = 0))) (.leaf (.pan (.iface 47 (.agg [.int .i64 ((qlh l d).1)])) [some ⟨.var [.cl (.sli .u8 ((qlh l d).2.2)), .cl (.int .i64 d)], false⟩])) (.leaf (.ret [.cl (.agg [.int .i64 ((qlh l d).2.1.1), .sli .u8 ((qlh l d).2.1.2.1), .slg 3 ((qlh l d).2.1.2.2)])] [some ⟨.var [.cl (.sli .u8 ((qlh l d).2.2)), .cl (.int .i64 d)], false⟩]))
 | _, _ => .fail
noncomputable def qxd : List V -> List Obj -> Bool := fun xs obs => match xs, obs with
 | [.ptr 0 0 0], [⟨.var [.cl (.sli .u8 l), .cl (.int .i64 d)], false⟩] => qad l && qcb d
 | _, _ => false
noncomputable def qjm (rk : Nat) : List V -> List Obj -> Bool := fun xs obs => match xs, obs with
 | [.ptr 0 0 0], [⟨.var [.cl (.sli .u8 l), .cl (.int .i64 d)], false⟩] => qad l && (qcb d && decide (d.toNat < rk))
 | _, _ => false
noncomputable def SDParts : List V -> List Obj -> Tree := fun xs obs => match xs, obs with
 | [.ptr 0 0 0, .cl (.int .i64 tag), .cl (.sli .u8 b)], [⟨.var [.cl (.sli .u8 l), .cl (.int .i64 d)], false⟩] => .ite (!(decide ((qa6 tag b d).1 = 0))) (.leaf (.pan (.iface 47 (.agg [.int .i64 ((qa6 tag b d).1)])) [some ⟨.var [.cl (.sli .u8 l), .cl (.int .i64 d)], false⟩])) (.leaf (.ret [.cl (.agg [.int .i64 ((qa6 tag b d).2.1), .sli .u8 ((qa6 tag b d).2.2.1), .slg 3 ((qa6 tag b d).2.2.2)])] [some ⟨.var [.cl (.sli .u8 l), .cl (.int .i64 d)], false⟩]))
 | _, _ => .fail
noncomputable def preDParts : List V -> List Obj -> Bool := fun xs obs => match xs, obs with
 | [.ptr 0 0 0, .cl (.int .i64 tag), .cl (.sli .u8 b)], [⟨.var [.cl (.sli .u8 l), .cl (.int .i64 d)], false⟩] => qad b && (qcb d && decide (0 < d))
 | _, _ => false
noncomputable def qs3 (rk : Nat) : List V -> List Obj -> Bool := fun xs obs => match xs, obs with
 | [.ptr 0 0 0, .cl (.int .i64 tag), .cl (.sli .u8 b)], [⟨.var [.cl (.sli .u8 l), .cl (.int .i64 d)], false⟩] => qad b && (qcb d && decide (0 < d /\ d.toNat < rk + 1))
 | _, _ => false
noncomputable def SDParse : List V -> List Obj -> Tree := fun xs obs => match xs, obs with
 | [.cl (.sli .u8 b)], [] => .leaf (.ret [.cl (.agg [.int .i64 ((qar b).1.1), .sli .u8 ((qar b).1.2.1), .slg 3 ((qar b).1.2.2)]), .cl (.int .i64 ((qar b).2))] [])
 | _, _ => .fail
noncomputable def q6b : List V -> List Obj -> Bool := fun xs obs => match xs, obs with
 | [.cl (.sli .u8 b)], [] => qad b
 | _, _ => false
noncomputable def SLAwake : List V -> List Obj -> Tree := fun xs obs => match xs, obs with
 | [], [] => .leaf (.ret [.cl (.bool true)] [])
 | _, _ => .fail
noncomputable def q5w : List V -> List Obj -> Bool := fun xs obs => match xs, obs with
 | [], [] => true
 | _, _ => false
noncomputable def SLReads : List V -> List Obj -> Tree := fun xs obs => match xs, obs with
 | [.cl (.sli .u8 b)], [] => .leaf (.ret [.cl (.bool true)] [])
 | _, _ => .fail
noncomputable def preLReads : List V -> List Obj -> Bool := fun xs obs => match xs, obs with
 | [.cl (.sli .u8 b)], [] => qmb b
 | _, _ => false
noncomputable def SLDeep : List V -> List Obj -> Tree := fun xs obs => match xs, obs with
 | [.cl (.int .u8 n)], [] => .leaf (.ret [.cl (.bool true)] [])
 | _, _ => .fail
noncomputable def preLDeep : List V -> List Obj -> Bool := fun xs obs => match xs, obs with
 | [.cl (.int .u8 n)], [] => decide (0 <= n /\ n <= 255)
 | _, _ => false
noncomputable def SDSame : List V -> List Obj -> Tree := fun xs obs => match xs, obs with
 | [.cl (.agg a), .cl (.agg b)], [] => .leaf (.ret [.cl (.bool (qii a b))] [])
 | _, _ => .fail
noncomputable def q40 : List V -> List Obj -> Bool := fun xs obs => match xs, obs with
 | [.cl (.agg a), .cl (.agg b)], [] => isN a && isN b
 | _, _ => false
noncomputable def qd3 (rk : Nat) : List V -> List Obj -> Bool := fun xs obs => match xs, obs with
 | [.cl (.agg a), .cl (.agg b)], [] => isNr rk a && isN b
 | _, _ => false
noncomputable def SEqF : List V -> List Obj -> Tree := fun xs obs => match xs, obs with
 | [.cl (.slg 3 a), .cl (.slg 3 b), .cl (.fn (.func 20) [] [])], [] => .leaf (.ret [.cl (.bool (qut a b))] [])
 | _, _ => .fail
noncomputable def preEqF : List V -> List Obj -> Bool := fun xs obs => match xs, obs with
 | [.cl (.slg 3 a), .cl (.slg 3 b), .cl (.fn (.func 20) [] [])], [] => isNs a && isNs b
 | _, _ => false
noncomputable def xbav (rk : Nat) : List V -> List Obj -> Bool := fun xs obs => match xs, obs with
 | [.cl (.slg 3 a), .cl (.slg 3 b), .cl (.fn (.func 20) [] [])], [] => isNsr rk a && isNs b
 | _, _ => false
noncomputable def SSEqual : List V -> List Obj -> Tree := fun xs obs => match xs, obs with
 | [.cl (.sli .u8 a), .cl (.sli .u8 b)], [] => .leaf (.ret [.cl (.bool (qbu a b))] [])
 | _, _ => .fail
noncomputable def q5s : List V -> List Obj -> Bool := fun xs obs => match xs, obs with
 | [.cl (.sli .u8 a), .cl (.sli .u8 b)], [] => qif a
 | _, _ => false
noncomputable def SRSmall : List V -> List Obj -> Tree := fun xs obs => match xs, obs with
 | [.cl (.agg a), .cl (.int .i64 left)], [] => .leaf (.ret [.cl (.int .i64 (qie a left))] [])
 | _, _ => .fail
noncomputable def qwy : List V -> List Obj -> Bool := fun xs obs => match xs, obs with
 | [.cl (.agg a), .cl (.int .i64 left)], [] => isT a && qm3 left
 | _, _ => false
noncomputable def qgd (rk : Nat) : List V -> List Obj -> Bool := fun xs obs => match xs, obs with
 | [.cl (.agg a), .cl (.int .i64 left)], [] => isTr rk a && qm3 left
 | _, _ => false
noncomputable def SDSize : List V -> List Obj -> Tree := fun xs obs => match xs, obs with
 | [.cl (.agg a), .cl (.int .i64 deep)], [] => .leaf (.ret [.cl (.int .i64 (q1s a deep))] [])
 | _, _ => .fail
noncomputable def q3u : List V -> List Obj -> Bool := fun xs obs => match xs, obs with
 | [.cl (.agg a), .cl (.int .i64 deep)], [] => isS a && qcb deep
 | _, _ => false
noncomputable def qj3 (rk : Nat) : List V -> List Obj -> Bool := fun xs obs => match xs, obs with
 | [.cl (.agg a), .cl (.int .i64 deep)], [] => isSr rk a && qcb deep
 | _, _ => false
noncomputable def SDPut : List V -> List Obj -> Tree := fun xs obs => match xs, obs with
 | [.nils, .cl (.int .i64 tag), .cl (.int .i64 n)], [] => .leaf (.ret [.ref 0 0 ((qcp tag n).length) true 1] [some ⟨.ints .u8 (qcp tag n), false⟩])
 | _, _ => .fail
noncomputable def preDPut : List V -> List Obj -> Bool := fun xs obs => match xs, obs with
 | [.nils, .cl (.int .i64 tag), .cl (.int .i64 n)], [] => qlk tag n
 | _, _ => false
noncomputable def SRHead : List V -> List Obj -> Tree := fun xs obs => match xs, obs with
 | [.cl (.int .i64 tag), .cl (.int .i64 n)], [] => .leaf (.ret [.ref 0 0 ((qcp tag n).length) true 1] [some ⟨.ints .u8 (qcp tag n), false⟩])
 | _, _ => .fail
noncomputable def preRHead : List V -> List Obj -> Bool := fun xs obs => match xs, obs with
 | [.cl (.int .i64 tag), .cl (.int .i64 n)], [] => qlk tag n
 | _, _ => false
noncomputable def SR1Join : List V -> List Obj -> Tree := fun xs obs => match xs, obs with
 | [.cl (.slg 1 l)], [] => .leaf (.ret [.cl (.sli .u8 (qct l))] [])
 | _, _ => .fail
noncomputable def q6e : List V -> List Obj -> Bool := fun xs obs => match xs, obs with
 | [.cl (.slg 1 l)], [] => qo0 l
 | _, _ => false
noncomputable def SSConcat : List V -> List Obj -> Tree := fun xs obs => match xs, obs with
 | [.cl (.slg 1 l)], [] => .leaf (.ret [.cl (.sli .u8 (qct l))] [])
 | _, _ => .fail
noncomputable def qzp : List V -> List Obj -> Bool := fun xs obs => match xs, obs with
 | [.cl (.slg 1 l)], [] => qo0 l
 | _, _ => false
noncomputable def SDWrite : List V -> List Obj -> Tree := fun xs obs => match xs, obs with
 | [.cl (.agg a)], [] => .leaf (.ret [.cl (.sli .u8 ((qi9 a).1)), .cl (.bool ((qi9 a).2))] [])
 | _, _ => .fail
noncomputable def qwd : List V -> List Obj -> Bool := fun xs obs => match xs, obs with
 | [.cl (.agg a)], [] => isW a
 | _, _ => false
noncomputable def qf9 (rk : Nat) : List V -> List Obj -> Bool := fun xs obs => match xs, obs with
 | [.cl (.agg a)], [] => isWr rk a
 | _, _ => false
noncomputable def SRWrite : List V -> List Obj -> Tree := fun xs obs => match xs, obs with
 | [.cl (.agg a), .cl (.int .i64 deep)], [] => .leaf (.ret [.cl (.sli .u8 ((qey a deep).1)), .cl (.bool ((qey a deep).2))] [])
 | _, _ => .fail
noncomputable def qws : List V -> List Obj -> Bool := fun xs obs => match xs, obs with
 | [.cl (.agg a), .cl (.int .i64 deep)], [] => isS a && qcb deep
 | _, _ => false
noncomputable def qgc (rk : Nat) : List V -> List Obj -> Bool := fun xs obs => match xs, obs with
 | [.cl (.agg a), .cl (.int .i64 deep)], [] => isSr rk a && qcb deep
 | _, _ => false
noncomputable def SDBytes : List V -> List Obj -> Tree := fun xs obs => match xs, obs with
 | [.cl (.agg a)], [] => .leaf (.ret [.cl (.sli .u8 ((qa3 a).1)), .cl (.int .i64 ((qa3 a).2))] [])
 | _, _ => .fail
noncomputable def qkc : List V -> List Obj -> Bool := fun xs obs => match xs, obs with
 | [.cl (.agg a)], [] => isS a
 | _, _ => false
noncomputable def SDFit_ : List V -> List Obj -> Tree := fun xs obs => match xs, obs with
 | [.cl (.agg a)], [] => .leaf (.ret [.cl (.bool (qq8 a))] [])
 | _, _ => .fail
noncomputable def qsk : List V -> List Obj -> Bool := fun xs obs => match xs, obs with
 | [.cl (.agg a)], [] => isS a
 | _, _ => false
noncomputable def SRBytes : List V -> List Obj -> Tree := fun xs obs => match xs, obs with
 | [.cl (.agg a)], [] => .leaf (.ret [.cl (.sli .u8 ((qa3 a).1)), .cl (.int .i64 ((qa3 a).2))] [])
 | _, _ => .fail
noncomputable def qj6 : List V -> List Obj -> Bool := fun xs obs => match xs, obs with
 | [.cl (.agg a)], [] => isS a
 | _, _ => false
noncomputable def SRFit_ : List V -> List Obj -> Tree := fun xs obs => match xs, obs with
 | [.cl (.agg a)], [] => .leaf (.ret [.cl (.bool (qq8 a))] [])
 | _, _ => .fail
noncomputable def qst : List V -> List Obj -> Bool := fun xs obs => match xs, obs with
 | [.cl (.agg a)], [] => isS a
 | _, _ => false
noncomputable def SSGrow : List V -> List Obj -> Tree := fun xs obs => match xs, obs with
 | [.nils, .cl (.int .i64 n)], [] => .leaf (.ret [.ref 0 0 0 true 1] [some ⟨.ints .u8 noInts, false⟩])
 | _, _ => .fail
noncomputable def q2m : List V -> List Obj -> Bool := fun xs obs => match xs, obs with
 | [.nils, .cl (.int .i64 n)], [] => growOk n
 | _, _ => false
noncomputable def SLTells : List V -> List Obj -> Tree := fun xs obs => match xs, obs with
 | [.cl (.agg a), .cl (.agg b), .cl (.int .i64 tag)], [] => .leaf (.ret [.cl (.bool true)] [])
 | _, _ => .fail
noncomputable def qki : List V -> List Obj -> Bool := fun xs obs => match xs, obs with
 | [.cl (.agg a), .cl (.agg b), .cl (.int .i64 tag)], [] => isT a && isT b
 | _, _ => false
noncomputable def SLBack : List V -> List Obj -> Tree := fun xs obs => match xs, obs with
 | [.cl (.agg a), .cl (.sli .u8 b)], [] => .leaf (.ret [.cl (.bool true)] [])
 | _, _ => .fail
noncomputable def preLBack : List V -> List Obj -> Bool := fun xs obs => match xs, obs with
 | [.cl (.agg a), .cl (.sli .u8 b)], [] => isT a && qmb b
 | _, _ => false
noncomputable def SLAll : List V -> List Obj -> Tree := fun xs obs => match xs, obs with
 | [.cl (.agg a), .cl (.agg b), .cl (.int .i64 pl), .cl (.sli .u8 more)], [] => .leaf (.ret [.cl (.bool true)] [])
 | _, _ => .fail
noncomputable def preLAll : List V -> List Obj -> Bool := fun xs obs => match xs, obs with
 | [.cl (.agg a), .cl (.agg b), .cl (.int .i64 pl), .cl (.sli .u8 more)], [] => isT a && isT b && qmb more
 | _, _ => false
noncomputable def QONums : List V -> List Obj -> Option (List (List CV)) := fun xs obs => match xs, obs with
 | [.ptr 0 0 0], [⟨.var [.cl (.sli .u8 b)], false⟩] => some (qtq (qvt b))
 | _, _ => none
noncomputable def q9s : List V -> List Obj -> Bool := fun xs obs => match xs, obs with
 | [.ptr 0 0 0], [⟨.var [.cl (.sli .u8 b)], false⟩] => qad b
 | _, _ => false
def qzc : List CV -> Bool := fun x => match x with
 | [.int .u32 _, .bool _] => true
 | _ => false
theorem xba9 {x : List CV} (h : qzc x = true) : ∃ e1 e2, x = [.int .u32 e1, .bool e2] := by
 unfold qzc at h
 split at h
 ·exact ⟨_, _, rfl⟩
 ·cases h
noncomputable def DDCatch : DSpec := fun m xs obs => match m, xs, obs with
 | none, [.ptr 0 0 0, .ptr 1 0 0], [⟨.var [.cl (.int .i64 t), .cl (.sli .u8 bb), .cl (.slg 3 kk)], false⟩, ⟨.var [.cl (.int .i64 e)], false⟩] => some (.ret [] [some ⟨.var [.cl (.int .i64 t), .cl (.sli .u8 bb), .cl (.slg 3 kk)], false⟩, some ⟨.var [.cl (.int .i64 e)], false⟩])
 | some (.iface 47 (.agg [.int .i64 why])), [.ptr 0 0 0, .ptr 1 0 0], [⟨.var [.cl (.int .i64 t), .cl (.sli .u8 bb), .cl (.slg 3 kk)], false⟩, ⟨.var [.cl (.int .i64 e)], false⟩] => some (.ret [] [some ⟨.var [.cl (.int .i64 0), .nils, .nils], false⟩, some ⟨.var [.cl (.int .i64 why)], false⟩])
 | some (.iface 47 (.agg [.int .i64 why])), [.ptr 0 0 0, .ptr 1 0 0], [⟨.var [.cl (.int .i64 t), .nils, .nils], false⟩, ⟨.var [.cl (.int .i64 e)], false⟩] => some (.ret [] [some ⟨.var [.cl (.int .i64 0), .nils, .nils], false⟩, some ⟨.var [.cl (.int .i64 why)], false⟩])
 | _, _, _ => none
noncomputable def qsl : Option CV -> List V -> List Obj -> Bool := fun m xs obs => match m, xs, obs with
 | none, [.ptr 0 0 0, .ptr 1 0 0], [⟨.var [.cl (.int .i64 t), .cl (.sli .u8 bb), .cl (.slg 3 kk)], false⟩, ⟨.var [.cl (.int .i64 e)], false⟩] => true
 | some (.iface 47 (.agg [.int .i64 why])), [.ptr 0 0 0, .ptr 1 0 0], [⟨.var [.cl (.int .i64 t), .cl (.sli .u8 bb), .cl (.slg 3 kk)], false⟩, ⟨.var [.cl (.int .i64 e)], false⟩] => true
 | some (.iface 47 (.agg [.int .i64 why])), [.ptr 0 0 0, .ptr 1 0 0], [⟨.var [.cl (.int .i64 t), .nils, .nils], false⟩, ⟨.var [.cl (.int .i64 e)], false⟩] => true
 | _, _, _ => false
end Go.Proofs.YtbgkadaidhgggaaDoorA
