/-
 Times as plain functions: what the stamp layer computes. Conditions: none.
-/
import Derived.Test.YtoaakappnhemiaaGreatDoorK3
import Derived.Lib.ItoaMem
import Derived.Lib.ParseIntB
import Derived.Lib.Split
import Derived.Lib.CountLaws
import Derived.Lib.IndexBytes
import Derived.Lib.Join
import Derived.Lib.LaidTab
import Derived.Test.YtoaakappnhemiaaGreatDoorProg
set_option linter.unusedVariables false
namespace Go.Proofs.YtoaakappnhemiaaGreatDoorA
noncomputable section
def stOk (y:Int):Bool:=decide (1<=y/\y<=20000)
def qlx (y:Int):Bool:=decide (y % 4=0/\(y % 100≠0\/y % 400=0))
def qic (y m:Int):Int:=if m=2 then(if qlx y=true then 29 else 28) else if m=4\/m=6\/m=9\/m=11 then 30 else 31
def qov (y m d h i s:Int):Bool:=decide ((1<=y/\y<=9999/\1<=m/\m<=12)/\(1<=d/\d<=qic y m)/\0<=h/\h<24/\0<=i/\i<60/\0<=s/\s<60)
def qiz (y m:Int):Int:=if 1<=y/\y<=9999/\1<=m/\m<=12 then qic y m else 0
def qeh (y:Int):Int:=(y - 1)*365+(y - 1)/ 4 - (y - 1)/ 100+(y - 1)/ 400
def qd3 (y m:Int):Int:=if m<=2 then 31*(m - 1) else(153*(m - 3)+2)/ 5+59+(if qlx y=true then 1 else 0)
def qsy (y m d h i s:Int):Int:= -62135596800+(qeh y+qd3 y m+(d - 1))*86400+(h*3600+i*60+s)
def q67 (t:Int):Bool:=decide (-9223372036854775808<=t/\t<=9223372036854775807)
def qoa (a b:Int):Int:=if a<48\/57<a\/b<48\/57<b then -100000 else 10*(a - 48)+(b - 48)
def qfh (s:ByteArray):Int:=qoa (bget s 0) (bget s 1)
def quf:List Int->Int->Int
 | [],n=>n
 | c::r,n=>if c<48\/57<c then -1 else quf r (n*10+(c - 48))
def qds (s:ByteArray):Int:=quf (bytesOf s) 0
def qn4 (s:ByteArray):Int×Int:=
 if s.size=15/\bget s 14=90 then
  let y:=qoa (bget s 2) (bget s 3)+100*qoa (bget s 0) (bget s 1)
  let m:=qoa (bget s 4) (bget s 5)
  let d:=qoa (bget s 6) (bget s 7)
  let h:=qoa (bget s 8) (bget s 9)
  let i:=qoa (bget s 10) (bget s 11)
  let c:=qoa (bget s 12) (bget s 13)
  if qov y m d h i c=true then(qsy y m d h i c,0) else(0,1)
 else(0,1)
abbrev LI:=List Int
abbrev LC:=List CV
abbrev OO:=Option Out
abbrev KT:=Ex->St->Option Out
def xbln (x:Int):Bool:=decide (0<=x/\x<=255)
def qad (b:List Int):Bool:=shut (decide (b.length<=1000000)&&b.all xbln)
def qc6 (b:List Int):Bool:=shut (decide (b.length<=100000000))
def u32Ok (n:Int):Bool:=shut (decide (0<=n/\n<=4294967295))
def qcg (n:Int):Bool:=shut (decide (0<=n/\n<=1000))
def qm9 (a b:List Int):Bool:=decide (a=b)
def qcj (a b:List Int):Bool:=shut (qm9 a b)
def qb0:List Int->List Int->Int
 | [],[]=>0
 | [],_::_=> -1
 | _::_,[]=>1
 | x::a,y::b=>if x<y then -1 else if y<x then 1 else qb0 a b
def qgx (a b:List Int):Int:=shut (qb0 a b)
def qn3 (a b:List Int):Bool:=shut (decide (qb0 a b<0))
def qav (b:List Int):Int:=b.foldl (fun n x=>n*256+x) 0
def qg0 (b:List Int):Int:=shut (qav b)
def qap (tag:Int):Bool:=decide (tag=48\/tag=49\/(160<=tag/\tag<=190))
def qbj (tag:Int):Bool:=shut (qap tag)
def qa5 (tag:Int):Bool:=decide (tag=1\/tag=2\/tag=3\/tag=4\/tag=5\/tag=6\/tag=12\/tag=24)|| (qap tag|| decide (128<=tag/\tag<=158))
def qdt (tag:Int):Bool:=shut (qa5 tag)
def qau (n:Int):Int:=if n<128 then 1 else if n<256 then 2 else if n<65536 then 3 else 4
def qb3 (n:Int):Int:=shut (qau n)
def qjo:List Int->Bool
 | []=>false
 | [_]=>true
 | x::y::_=> !(decide (x=0/\y<128))&& !(decide (x=255/\128<=y))
def qfp (b:List Int):Bool:=shut (qjo b)
def qpg:List Int->Bool
 | []=>false
 | [x]=>decide (x=0)
 | x::y::r=>decide (x<=7)&&decide ((y::r).getLast (by simp) % 2 ^ x.toNat=0)
def qig (b:List Int):Bool:=shut (qpg b)
def u8At (l:List Int) (k:Nat):Bool:=match l[k]? with|some x=>decide (128<=x/\x<192)|none=>false
def u8Cont (b:List Int) (i:Int):Bool:=shut (u8At b i.toNat)
def qdi:List Int->Int
 | []=>0
 | c::r=>
  if c<128 then 1
  else if 194<=c/\c<=223/\u8At r 0=true then 2
  else if 224<=c/\c<=239/\u8At r 0=true/\u8At r 1=true/\(c=224->160<=r.headD 0)/\(c=237->r.headD 0<160) then 3
  else if 240<=c/\c<=244/\u8At r 0=true/\u8At r 1=true/\u8At r 2=true/\(c=240->144<=r.headD 0)/\(c=244->r.headD 0<144) then 4
  else 0
def u8Rune (b:List Int) (i:Int):Int:=shut (qdi (b.drop i.toNat))
def qif:Nat->List Int->Bool
 | 0,_=>true
 | n+1,l=>if l=[] then true else if qdi l=0 then false else qif n (l.drop (qdi l).toNat)
def qcl (l:List Int):Bool:=qif l.length l
def u8Valid (b:List Int):Bool:=shut (qcl b)
def xblw (l:List Int):Int:=
 ((l.getD 0 0).toNat||| (l.getD 1 0).toNat*2 ^ 8||| (l.getD 2 0).toNat*2 ^ 16||| (l.getD 3 0).toNat*2 ^ 24||| (l.getD 4 0).toNat*2 ^ 32||| (l.getD 5 0).toNat*2 ^ 40||| (l.getD 6 0).toNat*2 ^ 48||| (l.getD 7 0).toNat*2 ^ 56:Nat)
def u8Word (b:List Int):Int:=shut (xblw b)
def qg1:List Int:=List.replicate 128 240++List.replicate 66 241++List.replicate 30 2++[19]++List.replicate 12 3++[35]++List.replicate 2 3++[52]++List.replicate 3 4++[68]++List.replicate 11 241
def qj4:List CV:=([(128,191),(160,191),(128,159),(144,191),(128,143)]++List.replicate 11 (0,0):List (Int×Int)).map fun p=>.agg [.int .u8 p.1,.int .u8 p.2]
def u8First:List Int:=shut qg1
def u8Accept:List CV:=shut qj4
def qcn:List Int->Bool
 | x::y::r=>decide (r.length<=18)&&(decide (x<2/\y<40)|| decide (x=2/\y<=4294967215))
 | _=>false
def qi7 (o:List Int):Bool:=shut (qcn o)
def qee (n:Int):List Int:=if n<80 then[n/ 40,n % 40] else[2,n - 80]
def qf2 (n:Int):List Int:=shut (qee n)
def qcc:Int->Int->List Int->Int×Int
 | _,_,[]=>(0,0)
 | n,i,c::r=>if(i=0/\c=128)\/33554431<n then(0,0) else if c<128 then(n*128+c,i+1) else qcc (n*128+(c - 128)) (i+1) r
def qao (b:List Int):Int×Int:=qcc 0 0 b
def qfm (b:List Int):Int×Int:=shut (qao b)
def qec:Nat->List Int->List (Int×Bool)
 | 0,_=>[]
 | n+1,b=>if b=[] then[] else if(qao b).2=0 then[((qao b).1,false)] else((qao b).1,true)::qec n (b.drop (qao b).2.toNat)
def qh8 (b:List Int):List (Int×Bool):=qec b.length b
def qt7 (b:List Int):List (Int×Bool):=shut (qh8 b)
def qqf (l:List (Int×Bool)):List (List CV):=shut (l.map fun p=>[.int .u32 p.1,.bool p.2])
def xbfj:List (Int×Bool)->List Int->Option (List Int)
 | [],o=>some o
 | (n,ok)::r,o=>if ok=false\/20<o.length then none else if o=[] then xbfj r (qee n) else xbfj r (o++[n])
def ql8 (b:List Int):List Int×Int:=match xbfj (qh8 b) [] with
 | some o=>if qcn o=true then(o,0) else([],5)
 | none=>([],5)
def qdn (b:List Int):List Int×Int:=shut (ql8 b)
def qbh (tag:Int) (b:List Int):Bool:=
 if tag=1 then decide (b=[0]\/b=[255])
 else if tag=2 then qjo b
 else if tag=3 then qpg b
 else if tag=5 then decide (b=[])
 else if tag=6 then decide ((ql8 b).2=0)
 else if tag=12 then qcl b
 else if tag=24 then decide ((qn4 (xbfh b)).2=0)
 else true
def qcs (tag:Int) (b:List Int):Bool:=shut (qbh tag b)
def qac:List Int->Int×Int
 | []=>(0,0)
 | c::t=>if c<128 then(c,1) else if c=128\/131<c\/(t.length:Int)<c - 128 then(0,0)
  else if t.headD 0=0\/qav (t.take (c - 128).toNat)<128 then(0,0) else(qav (t.take (c - 128).toNat),1+(c - 128))
def qgr (b:List Int):Int×Int:=shut (qac b)
def qo3 (l:List Int):Bool:=shut (!(decide ((qac l).2=0)))
def qea (l:List Int):Int×List Int:=shut ((qac l).1,l.drop (qac l).2.toNat)
def qjj:List Int->List Int
 | []=>[]
 | c::t=>if c=128\/131<c then t else t.drop (c - 128).toNat
def qgt (l:List Int):List Int:=shut (qjj l)
abbrev Nd:=Int×List Int×List CV
def nd0:Nd:=(0,[],[])
def ndCV (x:Nd):CV:=.agg [.int .i64 x.1,.sli .u8 x.2.1,.slg 3 x.2.2]
def qa2:List (List Int)->Bool
 | a::b::r=>decide (qb0 a b<=0)&&qa2 (b::r)
 | _=>true
def rowB (l:List Int):Bool:=decide (l.length<=1000000)&&l.all xbln
def xbvm:CV->Bool
 | .sli .u8 l=>rowB l
 | _=>false
def qhm (l:List CV):Bool:=shut (decide (l.length<=1000000)&&l.all xbvm)
def qbn (l:List CV):Bool:=shut (qa2 (l.map qb7))
def qdk (l:List CV):List Int:=shut (l.flatMap qb7)
def qch (f:List Int->Int×Nd×Int):Nat->List Int->Int×List Nd×List (List Int)
 | 0,_=>(0,[],[])
 | m+1,b=>if b=[] then(0,[],[]) else
  if(f b).1=0 then
   let p:=qch f m (b.drop (f b).2.2.toNat)
   (p.1,(f b).2.1::p.2.1,b.take (f b).2.2.toNat::p.2.2)
  else((f b).1,[],[])
def qaq:Nat->List Int->Int×Nd×Int
 | 0,_=>(3,nd0,0)
 | n+1,b=>match b with
  | []=>(1,nd0,0)
  | t::r=>if qa5 t=false then(4,nd0,0)
   else if(qac r).2=0\/(r.length:Int) - (qac r).2<(qac r).1 then(1,nd0,0)
   else
    let inside:=(r.drop (qac r).2.toNat).take (qac r).1.toNat
    let used:=1+(qac r).2+(qac r).1
    if qap t=false then(if qbh t inside=true then(0,(t,inside,[]),used) else(5,nd0,0))
    else
     let p:=qch (qaq n) inside.length inside
     if p.1=0 then(if t=49/\qa2 p.2.2=false then(6,nd0,0) else(0,(t,[],p.2.1.map ndCV),used)) else(p.1,nd0,0)
def qd7 (b:List Int) (d:Int):Nd×Int×Int:=shut (let p:=qaq d.toNat b;if p.1=0 then(p.2.1,p.2.2,0) else(nd0,0,p.1))
def qu3 (b:List Int):Nd×Int:=let p:=qaq 32 b;if p.1=0 then(if p.2.2<b.length then(nd0,7) else(p.2.1,0)) else(nd0,p.1)
def qa9 (b:List Int):Nd×Int:=shut (qu3 b)
def qi1 (l:List Int) (d:Int):List Int:=
 if d<=0 then l else match l with
  | []=>[]
  | t::r=>if qa5 t=false then r
   else if(qac r).2=0 then qjj r
   else if(r.length:Int) - (qac r).2<(qac r).1 then r.drop (qac r).2.toNat
   else r.drop ((qac r).2+(qac r).1).toNat
def qk4 (l:List Int) (d:Int):Int×Nd×List Int:=shut ((qaq d.toNat l).1,(qaq d.toNat l).2.1,qi1 l d)
def qbb (tag:Int) (b:List Int) (d:Int):Int×Nd:=shut (
 let p:=qch (qaq (d - 1).toNat) b.length b
 if p.1=0 then(if tag=49/\qa2 p.2.2=false then(6,nd0) else(0,(tag,[],p.2.1.map ndCV))) else(p.1,nd0))
def isNf:Nat->List CV->Bool
 | 0,_=>false
 | n+1,[.int .i64 _,.sli .u8 b,.slg 3 l]=>decide (b.length<=100000000)&&(decide (l.length<=100000000)&&l.all fun c=>match c with|.agg x=>isNf n x|_=>false)
 | _+1,_=>false
def isN (l:List CV):Bool:=shut (@decide (∃n,isNf n l=true) (Classical.propDecidable _))
def qyj (n:Int):Bool:=shut (decide (0<=n/\n<=100000000))
def qa0:List Int:=shut []
def qzj (n:Int):Bool:=shut (decide (0<=n/\n<=30000))
def qcd (tag n:Int):List Int:=tag::(if n<128 then[n] else if n<256 then[129,n] else if n<65536 then[130,n/ 256,n % 256] else[131,n/ 65536,n/ 256 % 256,n % 256])
def qdh (tag n:Int):List Int:=shut (qcd tag n)
def qk1 (tag n:Int):Bool:=shut (decide ((0<=tag/\tag<=255)/\0<=n/\n<16777216))
def qnk (l:List CV):Bool:=shut (decide (l.length<=1000000)&&(l.all xbvm&&decide ((l.flatMap qb7).length<=1000000)))
def isTf:Nat->List CV->Bool
 | 0,_=>false
 | n+1,[.int .i64 _,.sli .u8 b,.slg 3 l]=>b.all xbln&&l.all fun c=>match c with|.agg x=>isTf n x|_=>false
 | _+1,_=>false
def qdp:Nat->List CV->Nat
 | n+1,[.int .i64 _,.sli .u8 b,.slg 3 l]=>1+b.length+(l.map fun c=>qdp n (cell1 c)).sum
 | _,_=>0
def okF:Nat->Nat->List CV->Bool
 | n+1,d+1,[.int .i64 t,.sli .u8 b,.slg 3 l]=>qa5 t&&(if qap t=true then decide (b=[])&&l.all fun c=>okF n d (cell1 c) else decide (l=[])&&qbh t b)
 | _,_,_=>false
def qai:Nat->List CV->List Int×Bool
 | n+1,[.int .i64 t,.sli .u8 b,.slg 3 l]=>
  if qap t=true then
   let ks:=l.map fun c=>qai n (cell1 c)
   let bs:=ks.map (·.1)
   (qcd t bs.flatten.length++bs.flatten,ks.all (·.2)&&(!(decide (t=49))|| qa2 bs))
  else(qcd t b.length++b,true)
 | _,_=>([],false)
def rkOf (a:List CV):Nat:=@dite _ (∃n,isTf n a=true) (Classical.propDecidable _) (fun h=>Classical.choose h) (fun _=>0)
def q1s (a:List CV) (deep:Int):Int:=shut (if okF (rkOf a) deep.toNat a=true then((qai (rkOf a) a).1.length:Int) else -1)
def isSr (n:Nat) (a:List CV):Bool:=shut (isTf n a&&(decide (qdp n a<=30000)))
def isS (a:List CV):Bool:=shut (@decide (∃n,isTf n a=true/\qdp n a<=30000) (Classical.propDecidable _))
def isWr (n:Nat) (a:List CV):Bool:=shut (@decide (isTf n a=true/\qdp n a<=30000/\∃d,okF n d a=true) (Classical.propDecidable _))
def isW (a:List CV):Bool:=shut (@decide (∃n,isTf n a=true/\qdp n a<=30000/\∃d,okF n d a=true) (Classical.propDecidable _))
def qjx (a:List CV):List Int×Bool:=shut (if(qai (rkOf a) a).2=true then((qai (rkOf a) a).1,true) else([],false))
def qgg (a:List CV) (deep:Int):List Int×Bool:=shut (if okF (rkOf a) deep.toNat a=true/\(qai (rkOf a) a).2=true then((qai (rkOf a) a).1,true) else([],false))
def qbq (a:List CV):List Int×Int:=shut (if okF (rkOf a) 32 a=true/\(qai (rkOf a) a).2=true then((qai (rkOf a) a).1,0) else([],1))
def qz2 (a:List CV):Bool:=shut (decide (okF (rkOf a) 32 a=true/\(qai (rkOf a) a).2=true))
def u32B (n:Int):Bool:=decide (0<=n/\n<=4294967295)
def qs5 (o:List Int):Bool:=shut (decide (o.length<=1000)&&o.all u32B)
def u64Ok (n:Int):Bool:=shut (decide (0<=n/\n<=18446744073709551615))
def gHi:Nat->Int->List Int
 | 0,_=>[]
 | f+1,n=>if n=0 then[] else gHi f (n/ 128)++[128+n % 128]
def qbc (n:Int):List Int:=gHi 5 (n/ 128)++[n % 128]
def qbk (n:Int):List Int:=shut (qbc n)
def qfl (o:List Int):List Int:=if qcn o=true then(match o with|x::y::r=>qbc (40*x+y)++r.flatMap qbc|_=>[]) else[]
def qa3 (o:List Int):List Int:=shut (qfl o)
def qb2:List CV:=shut []
def num8 (b:List Int):Bool:=shut (decide (b.length<=8)&&b.all xbln)
def vLeC (n:Int):List Int:=[n % 256,n/ 256 % 256,n/ 65536 % 256,n/ 16777216 % 256,n/ 4294967296 % 256,n/ 1099511627776 % 256,n/ 281474976710656 % 256,n/ 72057594037927936 % 256]
def vLe (n:Int):List Int:=shut (vLeC n)
def vBe (n:Int):List Int:=shut (vLeC n).reverse
def vRev (l:List Int):List Int:=shut l.reverse
def xbsf (l:List Int):Bool:=shut (decide (l.length=8))
def xbjw:List Int->List Int
 | a::b::r=>if(a=0/\b<128)\/(a=255/\128<=b) then xbjw (b::r) else a::b::r
 | l=>l
def xb36 (n:Int):List Int:=xbjw (vLeC (n % 18446744073709551616)).reverse
def vInt (n:Int):List Int:=shut (xb36 n)
def xbz2 (b:List Int):Int:=if 128<=b.headD 0 then qav b - 256 ^ b.length else qav b
def q0g (b:List Int):Int×Int:=if 8<b.length then(0,8) else(xbz2 b,0)
def qor (b:List Int):Int×Int:=shut (q0g b)
def qtt (g t:Int) (b:List Int) (k:List CV):Int:=if t≠g then 4 else if k.length≠0\/qbh g b=false then 5 else 0
def qdm (t:Int) (b:List Int) (k:List CV):Int×Int:=shut (if qtt 2 t b k=0 then q0g b else(0,qtt 2 t b k))
def qos (t:Int) (b:List Int) (k:List CV):List Int×Int:=shut (if qtt 6 t b k=0 then qdn b else([],qtt 6 t b k))
def qba (t:Int) (b:List Int) (k:List CV):List Int×Int:=shut (if qtt 4 t b k=0 then(b,0) else([],qtt 4 t b k))
def xbg2 (g:Int) (b:List Int):Int×List Int×Int:=if qbh g b=true then(g,b,0) else(0,[],5)
def qfq (g:Int) (b:List Int):Int×List Int×Int:=shut (xbg2 g b)
def qrg (g:Int) (b:List Int):Bool:=shut (decide ((g=12\/g=6\/g=24)/\b.length<=2000)&&b.all xbln)
def idOk (o:List Int):Bool:=shut (decide (o.length<=50)&&o.all u32B)
def u8Ok (n:Int):Bool:=shut (decide (0<=n/\n<=255))
def xbzy (g:Int) (l:List CV):Int×List CV×Int:=if 0<=g/\g<=30 then(160+g,l,0) else(0,[],8)
def vBox (g:Int) (l:List CV):Int×List CV×Int:=shut (xbzy g l)
def q2g (g t:Int) (b:List Int) (k:List CV):List CV×Int:=if t≠g\/qap g=false then([],4) else if b.length≠0 then([],5) else(k,0)
def qb4 (g t:Int) (b:List Int) (k:List CV):List CV×Int:=shut (q2g g t b k)
def qbl (l:List CV):Bool:=shut (decide (l.length<=100000000))
def xbc5:CV:=.agga 11 6 [.agg [.int .i64 1,.int .i64 3,.int .i64 1,.int .i64 0,.int .i64 1,.int .i64 1],.agg [.int .i64 4,.int .i64 2,.int .i64 1,.int .i64 0,.int .i64 8,.int .i64 2],.agg [.int .i64 6,.int .i64 2,.int .i64 1,.int .i64 0,.int .i64 11,.int .i64 1],.agg [.int .i64 11,.int .i64 3,.int .i64 2,.int .i64 1,.int .i64 17,.int .i64 1],.agg [.int .i64 33,.int .i64 2,.int .i64 2,.int .i64 5,.int .i64 1,.int .i64 1],.agg [.int .i64 41,.int .i64 1,.int .i64 2,.int .i64 4,.int .i64 17,.int .i64 1],.agg [.int .i64 51,.int .i64 3,.int .i64 3,.int .i64 2,.int .i64 1,.int .i64 1],.agg [.int .i64 61,.int .i64 3,.int .i64 4,.int .i64 4,.int .i64 28,.int .i64 1],.agg [.int .i64 71,.int .i64 3,.int .i64 5,.int .i64 3,.int .i64 5,.int .i64 20],.agg [.int .i64 81,.int .i64 3,.int .i64 6,.int .i64 3,.int .i64 2,.int .i64 20],.agg [.int .i64 91,.int .i64 3,.int .i64 7,.int .i64 3,.int .i64 6,.int .i64 20]]
def qgz:List (Int×Int×List Int):=[(1,1,[2,16,840,1,101,3,4,2,1]),
 (2,1,[2,16,840,1,101,3,4,2,2]),
 (3,1,[2,16,840,1,101,3,4,2,3]),
 (4,1,[2,16,840,1,101,3,4,2,8]),
 (5,1,[2,16,840,1,101,3,4,2,10]),
 (6,1,[2,16,840,1,101,3,4,2,11]),
 (7,1,[2,16,840,1,101,3,4,2,12]),
 (11,2,[2,16,840,1,101,3,4,3,17]),
 (12,2,[2,16,840,1,101,3,4,3,18]),
 (13,2,[2,16,840,1,101,3,4,3,19]),
 (33,2,[2,999,1]),
 (34,2,[2,999,2]),
 (41,2,[1,2,840,113549,1,9,16,3,17]),
 (51,3,[2,16,840,1,101,3,4,4,1]),
 (52,3,[2,16,840,1,101,3,4,4,2]),
 (53,3,[2,16,840,1,101,3,4,4,3]),
 (61,4,[1,2,840,113549,1,9,16,3,28]),
 (62,4,[1,2,840,113549,1,9,16,3,29]),
 (63,4,[1,2,840,113549,1,9,16,3,30]),
 (71,5,[2,16,840,1,101,3,4,1,5]),
 (72,5,[2,16,840,1,101,3,4,1,25]),
 (73,5,[2,16,840,1,101,3,4,1,45]),
 (81,6,[2,16,840,1,101,3,4,1,2]),
 (82,6,[2,16,840,1,101,3,4,1,22]),
 (83,6,[2,16,840,1,101,3,4,1,42]),
 (91,7,[2,16,840,1,101,3,4,1,6]),
 (92,7,[2,16,840,1,101,3,4,1,26]),
 (93,7,[2,16,840,1,101,3,4,1,46]),
 (21,2,[2,16,840,1,101,3,4,3,20]),
 (22,2,[2,16,840,1,101,3,4,3,26]),
 (23,2,[2,16,840,1,101,3,4,3,21]),
 (24,2,[2,16,840,1,101,3,4,3,27]),
 (25,2,[2,16,840,1,101,3,4,3,22]),
 (26,2,[2,16,840,1,101,3,4,3,28]),
 (27,2,[2,16,840,1,101,3,4,3,23]),
 (28,2,[2,16,840,1,101,3,4,3,29]),
 (29,2,[2,16,840,1,101,3,4,3,24]),
 (30,2,[2,16,840,1,101,3,4,3,30]),
 (31,2,[2,16,840,1,101,3,4,3,25]),
 (32,2,[2,16,840,1,101,3,4,3,31])]
def qou:List (List CV):=shut (qgz.map fun e=>[.agg [.int .i64 e.1,.int .i64 e.2.1,.sli .u32 e.2.2]])
def qat (g:Int):Int×Int×List Int:=(qgz.find? fun e=>decide (e.1=g)).getD (0,0,[])
def qa6 (g:Int):Int×Int×List Int:=shut (qat g)
def xbuq (o:List Int):Int:=((qgz.find? fun e=>decide (e.2.2=o)).getD (0,0,[])).1
def qz5 (o:List Int):Int:=shut (xbuq o)
def qiy (g h:Int):List Int:=shut [2,16,840,1,101,3,4,g,h]
def qty (o:List Int):List Int:=shut ([1,2,840,113549,1]++o)
def qg6 (g:Int):Int:=if g=6 then 16 else if g=7 then 12 else 0
def qi0 (g:Int):Int:=shut (qg6 g)
def qcr (t:Int) (b:List Int) (k:List CV):CV:=.agg [.int .i64 t,.sli .u8 b,.slg 3 k]
def q0v (o:List Int):CV:=qcr (qfq 6 (qa3 o)).1 (qfq 6 (qa3 o)).2.1 []
def qh3 (g:Int) (b:List Int):Int×List CV×Int:=
 if(qat g).2.1=0 then(0,[],9) else if(b.length:Int)≠qg6 (qat g).2.1 then(0,[],14)
 else(48,q0v (qat g).2.2::(if(qat g).2.1=6 then[qcr 4 b []] else if(qat g).2.1=7 then[qcr 48 [] [qcr 4 b [],qcr 2 (vInt 16) []]] else[]),0)
def qbt (g:Int) (b:List Int):Int×List CV×Int:=shut (qh3 g b)
abbrev nT (c:CV):Int:=qft ((cell1 c).headD .nili)
abbrev nB (c:CV):List Int:=qb7 ((cell1 c).tail.headD .nili)
abbrev nK (c:CV):List CV:=qbm ((cell1 c).tail.tail.headD .nili)
def algB (g:Int) (x:CV):List Int×Bool:=((qba (nT x) (nB x) (nK x)).1,decide ((qba (nT x) (nB x) (nK x)).2=0)&&decide (((qba (nT x) (nB x) (nK x)).1.length:Int)=qg6 g))
def xb2q (g:Int) (q p:CV):List Int×Bool:=if ¬(qdm (nT q) (nB q) (nK q)).2=0 then([],false) else if ¬(qdm (nT q) (nB q) (nK q)).1=16 then([],false) else algB g p
def algG (g:Int) (two:List CV):List Int×Bool:=if ¬(two.length:Int)=2 then([],false) else xb2q g (two.getD 1 .nili) (two.headD .nili)
def algH (g:Int) (x:CV):List Int×Bool:=if g=7 then(if ¬(qb4 48 (nT x) (nB x) (nK x)).2=0 then([],false) else algG g (qb4 48 (nT x) (nB x) (nK x)).1) else algB g x
def qw1 (g:Int) (l:List CV):List Int×Bool:=
 if qg6 g=0 then([],decide ((l.length:Int)=0)) else if ¬(l.length:Int)=1 then([],false) else algH g (l.headD .nili)
def qhy (g:Int) (l:List CV):List Int×Bool:=shut (qw1 g l)
def q1g (l:List CV):Bool:=shut (@decide (∀c∈l, ∃t b k,c=.agg [.int .i64 t,.sli .u8 b,.slg 3 k]/\isS [.int .i64 t,.sli .u8 b,.slg 3 k]=true) (Classical.propDecidable _))
def xb11 (v:List Int×Int) (r:List CV):Int×List Int×Int:=if ¬v.2=0 then(0,[],1) else if qz5 v.1=0 then(0,[],9) else if(qhy (qa6 (qz5 v.1)).2.1 r).2=false then(0,[],1) else(qz5 v.1,(qhy (qa6 (qz5 v.1)).2.1 r).1,0)
def algR (ks:List CV):Int×List Int×Int:=if(ks.length:Int)=0 then(0,[],1) else xb11 (qos (nT (ks.headD .nili)) (nB (ks.headD .nili)) (nK (ks.headD .nili))) (ks.drop 1)
def q2h (t:Int) (b:List Int) (k:List CV):Int×List Int×Int:=if ¬(qb4 48 t b k).2=0 then(0,[],1) else algR (qb4 48 t b k).1
def qen (t:Int) (b:List Int) (k:List CV):Int×List Int×Int:=shut (q2h t b k)
def qm6:List (List Int):=[[0,0],[32,64],[48,128],[64,128],[32,136],[64,72],[32,168],[64,136]]
def qv5:CV:=.agga 8 2 (shut (qm6.map fun l=>.aggi 2 .i64 l))
def qbf (k:Int):Int:=if 0<=k/\k<8 then[0,32,48,64,32,64,32,64].getD k.toNat 0 else 0
def qow (k:Int):Int:=shut (qbf k)
abbrev mD (c:CV):Int:=qft ((cell1 c).headD .nili)
abbrev mT (c:CV):List CV:=qbm ((cell1 c).tail.headD .nili)
abbrev mW (c:CV):List Int:=qb7 ((cell1 c).tail.tail.headD .nili)
def xbd3 (d:Int) (t:List CV) (w:List Int):CV:=.agg [.int .i64 d,.slg 1 t,.sli .u8 w]
def b6k (b:List Int):Bool:=shut (decide (b.length<=6000))
def xbix (l:List CV):Prop:=l.length<=1000000/\∀c∈l, ∃b,c=.sli .u8 b/\qad b=true
def xbjr (t:List CV):Prop:=t.length<=1000000/\∀c∈t, ∃l,c=.slg 1 l/\xbix l
def isMk (c:CV):Prop:= ∃d t w,c=xbd3 d t w/\xbjr t/\qad w=true
def qsx (l:List CV):Prop:=l.length<=10000/\∀c∈l,isMk c
def qdj (l:List CV):Prop:=l.length<=10000/\∀c∈l, ∃m,c=.slg 3 m/\qsx m
def q59 (l:List CV):Bool:=shut (@decide (xbix l) (Classical.propDecidable _))
def q3h (l:List CV):Bool:=shut (@decide (xbjr l) (Classical.propDecidable _))
def qoj (l:List CV):Bool:=shut (@decide (qsx l) (Classical.propDecidable _))
def qcb (l:List CV):Bool:=shut (@decide (qdj l) (Classical.propDecidable _))
def qgj (l:List CV):Bool:=shut (@decide (l.length<=1000000/\∀c∈l, ∃t b k,c=.agg [.int .i64 t,.sli .u8 b,.slg 3 k]/\isS [.int .i64 t,.sli .u8 b,.slg 3 k]=true) (Classical.propDecidable _))
def qz3 (l:List CV):Nat:=(l.map fun c=>1+(qb7 c).length).sum
def qs9 (l:List CV):Nat:=(l.map fun c=>1+qz3 (qbm c)).sum
def qgl (l:List CV):Nat:=(l.map fun c=>2+(mW c).length+qs9 (mT c)).sum
def qcu (l:List CV):Nat:=(l.map fun c=>1+qgl (qbm c)).sum
def recO (l:List CV):Bool:=shut (@decide (qdj l/\qcu l<=12100) (Classical.propDecidable _))
def evB {α β:Type} (f:α->Option β) (lo hi:Int) (l:List α):Bool:=decide (lo<=(l.length:Int)/\(l.length:Int)<=hi)&&l.all fun c=>(f c).isSome
def evL {α β:Type} (f:α->Option β) (lo hi:Int) (l:List α):List β:=if evB f lo hi l=true then l.filterMap f else[]
def digF (s:Int) (c:CV):Option CV:=if((qb7 c).length:Int)=s then some (qcr 4 (qb7 c) []) else none
def dgB (s lo hi:Int) (l:List CV):Bool:=shut (evB (digF s) lo hi l)
def dgL (s lo hi:Int) (l:List CV):List CV:=shut (evL (digF s) lo hi l)
def qpt (s:Int) (c:CV):Option CV:=if evB (digF s) 1 64 (qbm c)=true then some (qcr 48 [] (evL (digF s) 1 64 (qbm c))) else none
def xbyv (s lo hi:Int) (l:List CV):Bool:=shut (evB (qpt s) lo hi l)
def xbub (s lo hi:Int) (l:List CV):List CV:=shut (evL (qpt s) lo hi l)
def q40 (d:Int) (t:List CV) (w:List Int):List CV:=
 qcr 160 [] [q0v (qat d).2.2]::((if t=[] then[] else[qcr 162 [] (evL (qpt (qbf d)) 0 20 t)])++[ndCV (qa9 w).1])
def qct (d:Int) (t:List CV) (w:List Int):Bool:=decide ((qat d).2.1=1)&&(decide ((qa9 w).2=0)&&evB (qpt (qbf d)) 0 20 t)
def qy4 (d:Int) (t:List CV) (w:List Int):Bool:=shut (qct d t w)
def q55 (d:Int) (t:List CV) (w:List Int):Int×List CV:=shut (if qct d t w=true then(48,q40 d t w) else(0,[]))
def q2f (d:Int) (t:List CV) (w:List Int):Int×List CV:=shut (if decide ((qat d).2.1=1)&&evB (qpt (qbf d)) 0 20 t then(48,q40 d t w) else(0,[]))
def qlz (c:CV):Option CV:=if qct (mD c) (mT c) (mW c)=true then some (qcr 48 [] (q40 (mD c) (mT c) (mW c))) else none
def qrf (lo hi:Int) (l:List CV):Bool:=shut (evB qlz lo hi l)
def qrd (lo hi:Int) (l:List CV):List CV:=shut (evL qlz lo hi l)
def qci (c:CV):Option CV:=if evB qlz 1 20 (qbm c)=true then some (qcr 48 [] (evL qlz 1 20 (qbm c))) else none
def qme (lo hi:Int) (l:List CV):Bool:=shut (evB qci lo hi l)
def qpd (lo hi:Int) (l:List CV):List CV:=shut (evL qci lo hi l)
def qmr (l:List CV):Int×List CV:=shut (if evB qci 1 10 l=true then(48,evL qci 1 10 l) else(0,[]))
def qfr (out:List Int) (d:Int):List Int:=if d∈out then out else out++[d]
def q7e (l:List CV):List Int:=l.map mD
def qf5 (l:List CV):List Int:=(l.flatMap fun c=>q7e (qbm c)).foldl qfr []
def qrw (l:List CV):List Int:=shut (qf5 l)
def xbr0 (l:List CV):List CV:=shut (l.flatMap qbm)
def hasI (l:List Int) (d:Int):Bool:=shut (decide (d∈l))
def idxI (l:List Int) (d:Int):Int:=shut (if d∈l then(l.idxOf d:Int) else -1)
def xblq (a b:List Int):Bool:=shut (decide (a=b))
def qgv (l:List Int):Bool:=shut (decide (l.length<=1000000000000000))
def q0o (d:Int):CV:=qcr (qh3 d []).1 [] (qh3 d []).2.1
def qs3 (l:List Int):Bool:=shut (decide (l.length<=1000000))
def q8c (d:Int):Option CV:=if(qh3 d []).2.2=0 then some (q0o d) else none
def xbnk (lo hi:Int) (l:List Int):Bool:=shut (evB q8c lo hi l)
def xbju (lo hi:Int) (l:List Int):List CV:=shut (evL q8c lo hi l)
def q1l (g:List Int) (c:List CV):List CV:=[qcr 2 (vInt 1) [],qcr 48 [] (g.map q0o),qcr 48 [] (evL qci 1 10 c)]
def q6z (g:List Int) (c:List CV):Bool:=evB qci 1 10 c&&decide (g=qf5 c)
def qs7 (g:List Int) (c:List CV):Bool:=q6z g c&&qz2 [.int .i64 48,.sli .u8 [],.slg 3 (q1l g c)]
def evOk (g:List Int) (c:List CV):Bool:=shut (qs7 g c)
def qk2 (g:List Int) (c:List CV):Int×List CV:=shut (if q6z g c=true then(48,q1l g c) else(0,[]))
def q6c (g:List Int) (c:List CV) (n:Int):List Int×Int:=
 if qs7 g c=false then([],1) else if n<1\/(c.length:Int)<n then([],8) else qbq [.int .i64 48,.sli .u8 [],.slg 3 (evL qci 1 10 (c.take n.toNat))]
def qxr (g:List Int) (c:List CV) (n:Int):List Int×Int:=shut (q6c g c n)
def quj (c:CV):Option CV:=if(qba (nT c) (nB c) (nK c)).2=0 then some (.sli .u8 (qba (nT c) (nB c) (nK c)).1) else none
def qg9 {β:Type} (f:CV->Option β) (g t:Int) (b:List Int) (k:List CV):Bool:=decide ((qb4 g t b k).2=0)&&(qb4 g t b k).1.all fun c=>(f c).isSome
def qdw {β:Type} (f:CV->Option β) (g t:Int) (b:List Int) (k:List CV):List β:=if qg9 f g t b k=true then(qb4 g t b k).1.filterMap f else[]
def qym (lo hi:Int) (l:List CV):Bool:=shut (evB quj lo hi l)
def qy1 (lo hi:Int) (l:List CV):List CV:=shut (evL quj lo hi l)
def ldB (g t:Int) (b:List Int) (k:List CV):Bool:=shut (qg9 quj g t b k)
def ldL (g t:Int) (b:List Int) (k:List CV):List CV:=shut (qdw quj g t b k)
def qdz (c:CV):Option CV:=if qg9 quj 48 (nT c) (nB c) (nK c)=true then some (.slg 1 (qdw quj 48 (nT c) (nB c) (nK c))) else none
def qss (lo hi:Int) (l:List CV):Bool:=shut (evB qdz lo hi l)
def qr6 (lo hi:Int) (l:List CV):List CV:=shut (evL qdz lo hi l)
def lpB (g t:Int) (b:List Int) (k:List CV):Bool:=shut (qg9 qdz g t b k)
def lpL (g t:Int) (b:List Int) (k:List CV):List CV:=shut (qdw qdz g t b k)
def qz4 (t:Int) (b:List Int) (k:List CV):Int×Bool:=
 if(qb4 160 t b k).2≠0\/((qb4 160 t b k).1.length:Int)≠1 then(0,false) else
  let c:=(qb4 160 t b k).1.headD .nili
  (qz5 (qos (nT c) (nB c) (nK c)).1,decide ((qos (nT c) (nB c) (nK c)).2=0))
def qr8 (t:Int) (b:List Int) (k:List CV):Int×Bool:=shut (qz4 t b k)
def xbki (c:CV):Int×Bool:=qz4 (nT c) (nB c) (nK c)
def q7k (c:CV):List Int×Int:=qbq [.int .i64 (nT c),.sli .u8 (nB c),.slg 3 (nK c)]
def qtz (ks:List CV):Int×List CV×List Int×Bool:=
 if(ks.length:Int)<2\/3<(ks.length:Int) then(0,[],[],false) else
  let x:=ks.headD .nili
  let y:=ks.getD 1 .nili
  let z:=ks.getD (ks.length - 1) .nili
  if(ks.length:Int)=3 then((xbki x).1,qdw qdz 162 (nT y) (nB y) (nK y),(q7k z).1,(qg9 qdz 162 (nT y) (nB y) (nK y)&&decide (0<((qdw qdz 162 (nT y) (nB y) (nK y)).length:Int)))&&((xbki x).2&&decide ((q7k z).2=0)))
  else((xbki x).1,[],(q7k z).1,(xbki x).2&&decide ((q7k z).2=0))
def qf7 (t:Int) (b:List Int) (k:List CV):Int×List CV×List Int×Bool:=if(qb4 48 t b k).2≠0 then(0,[],[],false) else qtz (qb4 48 t b k).1
def markOf (t:Int) (b:List Int) (k:List CV):Int×List CV×List Int×Bool:=shut (qf7 t b k)
def qt2 (c:CV):Option CV:=if(qf7 (nT c) (nB c) (nK c)).2.2.2=true then some (xbd3 (qf7 (nT c) (nB c) (nK c)).1 (qf7 (nT c) (nB c) (nK c)).2.1 (qf7 (nT c) (nB c) (nK c)).2.2.1) else none
def qqu (lo hi:Int) (l:List CV):Bool:=shut (evB qt2 lo hi l)
def qsc (lo hi:Int) (l:List CV):List CV:=shut (evL qt2 lo hi l)
def lmB (g t:Int) (b:List Int) (k:List CV):Bool:=shut (qg9 qt2 g t b k)
def lmL (g t:Int) (b:List Int) (k:List CV):List CV:=shut (qdw qt2 g t b k)
def qeq (c:CV):Option CV:=if qg9 qt2 48 (nT c) (nB c) (nK c)=true then some (.slg 3 (qdw qt2 48 (nT c) (nB c) (nK c))) else none
def qmd (lo hi:Int) (l:List CV):Bool:=shut (evB qeq lo hi l)
def ql6 (lo hi:Int) (l:List CV):List CV:=shut (evL qeq lo hi l)
def lcB (g t:Int) (b:List Int) (k:List CV):Bool:=shut (qg9 qeq g t b k)
def lcL (g t:Int) (b:List Int) (k:List CV):List CV:=shut (qdw qeq g t b k)
def algV (c:CV):Option Int:=if(qen (nT c) (nB c) (nK c)).2.2=0 then some (qen (nT c) (nB c) (nK c)).1 else none
def qzz (lo hi:Int) (l:List CV):Bool:=shut (evB algV lo hi l)
def qzh (lo hi:Int) (l:List CV):List Int:=shut (evL algV lo hi l)
def laB (g t:Int) (b:List Int) (k:List CV):Bool:=shut (qg9 algV g t b k)
def laL (g t:Int) (b:List Int) (k:List CV):List Int:=shut (qdw algV g t b k)
def xbbe (ks:List CV):List Int×List CV×Bool:=
 if(ks.length:Int)≠3 then([],[],false) else
  let x:=ks.headD .nili
  let y:=ks.getD 1 .nili
  let z:=ks.getD 2 .nili
  (qdw algV 48 (nT y) (nB y) (nK y),qdw qeq 48 (nT z) (nB z) (nK z),(decide ((qdm (nT x) (nB x) (nK x)).2=0)&&decide ((qdm (nT x) (nB x) (nK x)).1=1))&&(qg9 algV 48 (nT y) (nB y) (nK y)&&qg9 qeq 48 (nT z) (nB z) (nK z)))
def qes (b:List Int):List Int×List CV×Int:=
 if(qa9 b).2≠0 then([],[],(qa9 b).2) else
  let n:=(qa9 b).1
  let e:=xbbe (qb4 48 n.1 n.2.1 n.2.2).1
  if(qb4 48 n.1 n.2.1 n.2.2).2=0/\e.2.2=true/\qs7 e.1 e.2.1=true then(e.1,e.2.1,0) else([],[],1)
def qm2 (b:List Int):List Int×List CV×Int:=shut (qes b)
def pD (p:Prop):Bool:=@decide p (Classical.propDecidable _)
def qo7 (f:CV->Int->Int):List CV->Int->Int
 | [],x=>x
 | c::r,x=>if x<0 then x else qo7 f r (f c x)
def rowS (c:CV) (x:Int):Int:=x - 1 - min ((qb7 c).length:Int) 1048576
def q8m (c:CV) (x:Int):Int:=qo7 rowS (qbm c) (x - 1)
def q8l (c:CV) (x:Int):Int:=qo7 q8m (mT c) (x - 2 - min ((mW c).length:Int) 1048576)
def qvs (c:CV) (x:Int):Int:=qo7 q8l (qbm c) (x - 1)
def qjz (g:List Int) (c:List CV) (left:Int):Int:=shut (qo7 qvs c (left - min (g.length:Int) 1000))
def xbzw (l:List CV):Prop:= ∀c∈l, ∃b:List Int,c=.sli .u8 b/\∀x∈b,0<=x/\x<=255
def xbzp (t:List CV):Prop:= ∀c∈t, ∃l,c=.slg 1 l/\xbzw l
def q6u (l:List CV):Prop:= ∀c∈l, ∃d t w,c=xbd3 d t w/\xbzp t/\∀x∈w,0<=x/\x<=255
def qo6 (l:List CV):Prop:= ∀c∈l, ∃m,c=.slg 3 m/\q6u m
def recT (g:List Int) (l:List CV):Bool:=shut (@decide (g.length<=1000000000000000/\l.length<=1000000000000000/\qo6 l) (Classical.propDecidable _))
def qsf (l:List CV):Bool:=shut (@decide (q6u l) (Classical.propDecidable _))
def xbry (g:List Int) (c:List CV):Bool:=shut (c.all (fun x=>decide ((qbm x).length<=25))&&(decide (c.length<=12)&&decide (0<=qjz g c 6000)))
def qa1:Nat->Option CV:=fun g=>cond (Nat.beq g 0) (some (.aggi 256 .u8 u8First)) (cond (Nat.beq g 1) (some (.agga 16 2 u8Accept)) (cond (Nat.beq g 2) (some (xbc5)) (cond (Nat.beq g 3) (some (qv5)) (none))))
def QONums:List V->List Obj->Option (List (List CV)):=fun xs obs=>match xs,obs with
 | [.ptr 0 0 0],[⟨.var [.cl (.sli .u8 b)],false⟩]=>some (qqf (qt7 b))
 | _,_=>none
def xbd1:List V->List Obj->Bool:=fun xs obs=>match xs,obs with
 | [.ptr 0 0 0],[⟨.var [.cl (.sli .u8 b)],false⟩]=>qad b
 | _,_=>false
def qze:List CV->Bool:=fun x=>match x with
 | [.int .u32 _,.bool _]=>true
 | _=>false
theorem xbcc {x:List CV} (h:qze x=true): ∃e1 e2,x=[.int .u32 e1,.bool e2]:=by
 unfold qze at h
 split at h
 ·exact⟨_,_,rfl⟩
 ·cases h
def q7y:List V->List Obj->Option (List (List CV)):=fun xs obs=>match xs,obs with
 | [],[]=>some (qou)
 | _,_=>none
def q3e:List V->List Obj->Bool:=fun xs obs=>match xs,obs with
 | [],[]=>true
 | _,_=>false
def ql9:List CV->Bool:=fun x=>match x with
 | [.agg [.int .i64 _,.int .i64 _,.sli .u32 _]]=>true
 | _=>false
theorem qzt {x:List CV} (h:ql9 x=true): ∃e1 e2 e3,x=[.agg [.int .i64 e1,.int .i64 e2,.sli .u32 e3]]:=by
 unfold ql9 at h
 split at h
 ·exact⟨_,_,_,rfl⟩
 ·cases h
def DDCatch:DSpec:=fun m xs obs=>match m,xs,obs with
 | none,[.ptr 0 0 0,.ptr 1 0 0],[⟨.var [.cl (.int .i64 t),.cl (.sli .u8 bb),.cl (.slg 3 kk)],false⟩,⟨.var [.cl (.int .i64 e)],false⟩]=>some (.ret [] [some ⟨.var [.cl (.int .i64 t),.cl (.sli .u8 bb),.cl (.slg 3 kk)],false⟩,some ⟨.var [.cl (.int .i64 e)],false⟩])
 | some (.iface 85 (.agg [.int .i64 why])),[.ptr 0 0 0,.ptr 1 0 0],[⟨.var [.cl (.int .i64 t),.cl (.sli .u8 bb),.cl (.slg 3 kk)],false⟩,⟨.var [.cl (.int .i64 e)],false⟩]=>some (.ret [] [some ⟨.var [.cl (.int .i64 0),.nils,.nils],false⟩,some ⟨.var [.cl (.int .i64 why)],false⟩])
 | some (.iface 85 (.agg [.int .i64 why])),[.ptr 0 0 0,.ptr 1 0 0],[⟨.var [.cl (.int .i64 t),.nils,.nils],false⟩,⟨.var [.cl (.int .i64 e)],false⟩]=>some (.ret [] [some ⟨.var [.cl (.int .i64 0),.nils,.nils],false⟩,some ⟨.var [.cl (.int .i64 why)],false⟩])
 | _,_,_=>none
def qro:Option CV->List V->List Obj->Bool:=fun m xs obs=>match m,xs,obs with
 | none,[.ptr 0 0 0,.ptr 1 0 0],[⟨.var [.cl (.int .i64 t),.cl (.sli .u8 bb),.cl (.slg 3 kk)],false⟩,⟨.var [.cl (.int .i64 e)],false⟩]=>true
 | some (.iface 85 (.agg [.int .i64 why])),[.ptr 0 0 0,.ptr 1 0 0],[⟨.var [.cl (.int .i64 t),.cl (.sli .u8 bb),.cl (.slg 3 kk)],false⟩,⟨.var [.cl (.int .i64 e)],false⟩]=>true
 | some (.iface 85 (.agg [.int .i64 why])),[.ptr 0 0 0,.ptr 1 0 0],[⟨.var [.cl (.int .i64 t),.nils,.nils],false⟩,⟨.var [.cl (.int .i64 e)],false⟩]=>true
 | _,_,_=>false
def KDigits:Ct:=fun xs obs=>match xs,obs with
 | [.cl (.str s)],[]=>some (decide (2<=s.size),.leaf (.ret [.cl (.int .i64 (qfh s))] []))
 | _,_=>none
def BDigits:Nat->Ct:=t0
def KDLeap:Ct:=fun xs obs=>match xs,obs with
 | [.cl (.aggi 6 .i64 [d0,d1,d2,d3,d4,d5])],[]=>some (stOk d0,.leaf (.ret [.cl (.bool (qlx d0))] []))
 | _,_=>none
def BDLeap:Nat->Ct:=tb 172 KDigits BDigits
def KDDays:Ct:=fun xs obs=>match xs,obs with
 | [.cl (.aggi 6 .i64 [d0,d1,d2,d3,d4,d5])],[]=>some (stOk d0,.leaf (.ret [.cl (.int .i64 (qic d0 d1))] []))
 | _,_=>none
def BDDays:Nat->Ct:=tb 195 KDLeap BDLeap
def KDFit:Ct:=fun xs obs=>match xs,obs with
 | [.cl (.aggi 6 .i64 [d0,d1,d2,d3,d4,d5])],[]=>some (true,.leaf (.ret [.cl (.bool (qov d0 d1 d2 d3 d4 d5))] []))
 | _,_=>none
def BDFit:Nat->Ct:=tb 191 KDDays BDDays
def KDSecs:Ct:=fun xs obs=>match xs,obs with
 | [.cl (.aggi 6 .i64 [d0,d1,d2,d3,d4,d5])],[]=>some (qov d0 d1 d2 d3 d4 d5,.leaf (.ret [.cl (.int .i64 (qsy d0 d1 d2 d3 d4 d5))] []))
 | _,_=>none
def BDSecs:Nat->Ct:=tb 173 KDFit BDFit
def KSRead:Ct:=fun xs obs=>match xs,obs with
 | [.cl (.str s)],[]=>some (true,.leaf (.ret [.cl (.int .i64 ((qn4 s).1)),.cl (.int .i64 ((qn4 s).2))] []))
 | _,_=>none
def BSRead:Nat->Ct:=tb 174 KDSecs BDSecs
def KRLeap:Ct:=fun xs obs=>match xs,obs with
 | [.cl (.int .i64 y)],[]=>some (stOk y,.leaf (.ret [.cl (.bool (qlx y))] []))
 | _,_=>none
def BRLeap:Nat->Ct:=tb 136 KSRead BSRead
def KRDays:Ct:=fun xs obs=>match xs,obs with
 | [.cl (.int .i64 y),.cl (.int .i64 m)],[]=>some (true,.leaf (.ret [.cl (.int .i64 (qiz y m))] []))
 | _,_=>none
def BRDays:Nat->Ct:=tb 193 KRLeap BRLeap
def KRYears:Ct:=fun xs obs=>match xs,obs with
 | [.cl (.int .i64 y)],[]=>some (stOk y,.leaf (.ret [.cl (.int .i64 (qeh y))] []))
 | _,_=>none
def BRYears:Nat->Ct:=tb 181 KRDays BRDays
def KRNumber:Ct:=fun xs obs=>match xs,obs with
 | [.cl (.str s)],[]=>some (decide (s.size<=18),.leaf (.ret [.cl (.int .i64 (qds s))] []))
 | _,_=>none
def BRNumber:Nat->Ct:=tb 182 KRYears BRYears
def KRRead:Ct:=fun xs obs=>match xs,obs with
 | [.cl (.str s)],[]=>some (true,.leaf (.ret [.cl (.int .i64 ((qn4 s).1)),.cl (.int .i64 ((qn4 s).2))] []))
 | _,_=>none
def BRRead:Nat->Ct:=tb 180 KRNumber BRNumber
def KDBoxed:Ct:=fun xs obs=>match xs,obs with
 | [.cl (.int .i64 tag)],[]=>some (true,.leaf (.ret [.cl (.bool (qbj tag))] []))
 | _,_=>none
def BDBoxed:Nat->Ct:=tb 148 KRRead BRRead
def KRBoxed:Ct:=fun xs obs=>match xs,obs with
 | [.cl (.int .i64 tag)],[]=>some (true,.leaf (.ret [.cl (.bool (qbj tag))] []))
 | _,_=>none
def BRBoxed:Nat->Ct:=tb 50 KDBoxed BDBoxed
def KDKnown:Ct:=fun xs obs=>match xs,obs with
 | [.cl (.int .i64 tag)],[]=>some (true,.leaf (.ret [.cl (.bool (qdt tag))] []))
 | _,_=>none
def BDKnown:Nat->Ct:=tb 103 KRBoxed BRBoxed
def KRTagged:Ct:=fun xs obs=>match xs,obs with
 | [.cl (.int .i64 tag)],[]=>some (true,.leaf (.ret [.cl (.bool (qdt tag))] []))
 | _,_=>none
def BRTagged:Nat->Ct:=tb 87 KDKnown BDKnown
def qmp:Ct:=fun xs obs=>match xs,obs with
 | [.cl (.int .i64 n)],[]=>some (true,.leaf (.ret [.cl (.int .i64 (qb3 n))] []))
 | _,_=>none
def qxh:Nat->Ct:=tb 101 KRTagged BRTagged
def KDNumber:Ct:=fun xs obs=>match xs,obs with
 | [.cl (.sli .u8 b)],[]=>some (qad b,.leaf (.ret [.cl (.bool (qfp b))] []))
 | _,_=>none
def BDNumber:Nat->Ct:=tb 121 qmp qxh
def q2m:Ct:=fun xs obs=>match xs,obs with
 | [.cl (.sli .u8 b)],[]=>some (qad b,.leaf (.ret [.cl (.bool (qfp b))] []))
 | _,_=>none
def q09:Nat->Ct:=tb 132 KDNumber BDNumber
def KDStrip:Ct:=fun xs obs=>match xs,obs with
 | [.cl (.sli .u8 b)],[]=>some (qad b,.leaf (.ret [.cl (.bool (qig b))] []))
 | _,_=>none
def BDStrip:Nat->Ct:=tb 145 q2m q09
def qvw:Ct:=fun xs obs=>match xs,obs with
 | [.cl (.sli .u8 b)],[]=>some (qad b,.leaf (.ret [.cl (.bool (qig b))] []))
 | _,_=>none
def qu1:Nat->Ct:=tb 133 KDStrip BDStrip
def KRCont:Ct:=fun xs obs=>match xs,obs with
 | [.cl (.sli .u8 b),.cl (.int .i64 i)],[]=>some (decide (0<=i),.leaf (.ret [.cl (.bool (u8Cont b i))] []))
 | _,_=>none
def BRCont:Nat->Ct:=tb 146 qvw qu1
def KRRune:Ct:=fun xs obs=>match xs,obs with
 | [.cl (.sli .u8 b),.cl (.int .i64 i)],[]=>some (qad b&&decide (0<=i/\i<b.length),.leaf (.ret [.cl (.int .i64 (u8Rune b i))] []))
 | _,_=>none
def BRRune:Nat->Ct:=tb 192 KRCont BRCont
def KRUtf8:Ct:=fun xs obs=>match xs,obs with
 | [.cl (.sli .u8 b)],[]=>some (qad b,.leaf (.ret [.cl (.bool (u8Valid b))] []))
 | _,_=>none
def BRUtf8:Nat->Ct:=tb 179 KRRune BRRune
def KOFit:Ct:=fun xs obs=>match xs,obs with
 | [.cl (.sli .u32 o)],[]=>some (true,.leaf (.ret [.cl (.bool (qi7 o))] []))
 | _,_=>none
def BOFit:Nat->Ct:=tb 147 KRUtf8 BRUtf8
def KR2Fit:Ct:=fun xs obs=>match xs,obs with
 | [.cl (.sli .u32 o)],[]=>some (true,.leaf (.ret [.cl (.bool (qi7 o))] []))
 | _,_=>none
def BR2Fit:Nat->Ct:=tb 170 KOFit BOFit
def KR2First:Ct:=fun xs obs=>match xs,obs with
 | [.cl (.int .u64 n)],[]=>some (u32Ok n,.leaf (.ret [.cl (.sli .u32 (qf2 n))] []))
 | _,_=>none
def BR2First:Nat->Ct:=tb 150 KR2Fit BR2Fit
def KONumber:Ct:=fun xs obs=>match xs,obs with
 | [.cl (.sli .u8 b)],[]=>some (qad b,.leaf (.ret [.cl (.int .u32 ((qfm b).1)),.cl (.int .i64 ((qfm b).2))] []))
 | _,_=>none
def BONumber:Nat->Ct:=tb 149 KR2First BR2First
def KONumbers:Ct:=fun xs obs=>match xs,obs with
 | [.cl (.sli .u8 b)],[]=>some (true,.leaf (.ret [.fn (.func 189) [] [.ptr 0 0 0]] [some ⟨.var [.cl (.sli .u8 b)],false⟩]))
 | _,_=>none
def BONumbers:Nat->Ct:=tb 190 KONumber BONumber
def KARoot:Ct:=fun xs obs=>match xs,obs with
 | [.cl (.int .i64 0)],[]=>some (true,.leaf (.ret [.ref 0 0 8 true 1] [some ⟨.ints .u32 [2,16,840,1,101,3,4,2],false⟩]))
 | [.cl (.int .i64 1)],[]=>some (true,.leaf (.ret [.ref 0 0 8 true 1] [some ⟨.ints .u32 [2,16,840,1,101,3,4,3],false⟩]))
 | [.cl (.int .i64 2)],[]=>some (true,.leaf (.ret [.ref 0 0 8 true 1] [some ⟨.ints .u32 [2,16,840,1,101,3,4,4],false⟩]))
 | [.cl (.int .i64 3)],[]=>some (true,.leaf (.ret [.ref 0 0 8 true 1] [some ⟨.ints .u32 [2,16,840,1,101,3,4,1],false⟩]))
 | [.cl (.int .i64 4)],[]=>some (true,.leaf (.ret [.ref 0 0 8 true 1] [some ⟨.ints .u32 [1,2,840,113549,1,9,16,3],false⟩]))
 | [.cl (.int .i64 5)],[]=>some (true,.leaf (.ret [.ref 0 0 2 true 1] [some ⟨.ints .u32 [2,999],false⟩]))
 | _,_=>none
def BARoot:Nat->Ct:=tb 169 KONumbers BONumbers
def SOParse:List V->List Obj->Tree:=fun xs obs=>match xs,obs with
 | [.cl (.sli .u8 b)],[]=>.leaf (.ret [.cl (.sli .u32 ((qdn b).1)),.cl (.int .i64 ((qdn b).2))] [])
 | _,_=>.fail
def qvq:List V->List Obj->Bool:=fun xs obs=>match xs,obs with
 | [.cl (.sli .u8 b)],[]=>qad b
 | _,_=>false
def BOParse:Nat->Ct:=tb 176 KARoot BARoot
def KR2Parse:Ct:=fun xs obs=>match xs,obs with
 | [.cl (.sli .u8 b)],[]=>some (qad b,.leaf (.ret [.cl (.sli .u32 ((qdn b).1)),.cl (.int .i64 ((qdn b).2))] []))
 | _,_=>none
def BR2Parse:Nat->Ct:=tb 134 (ofS qvq SOParse) BOParse
def KR1Same:Ct:=fun xs obs=>match xs,obs with
 | [.cl (.sli .u8 a),.cl (.sli .u8 b)],[]=>some (qc6 a,.leaf (.ret [.cl (.bool (qcj a b))] []))
 | _,_=>none
def BR1Same:Nat->Ct:=tb 107 KR2Parse BR2Parse
def KSClone:Ct:=fun xs obs=>match xs,obs with
 | [.cl (.sli .u8 b)],[]=>some (qc6 b,.leaf (.ret [.cl (.sli .u8 b)] []))
 | _,_=>none
def BSClone:Nat->Ct:=tb 14 KR1Same BR1Same
def KR1Num:Ct:=fun xs obs=>match xs,obs with
 | [.cl (.sli .u8 b)],[]=>some (qad b&&decide (b.length<=7),.leaf (.ret [.cl (.int .u64 (qg0 b))] []))
 | _,_=>none
def BR1Num:Nat->Ct:=tb 91 KSClone BSClone
def KRLength:Ct:=fun xs obs=>match xs,obs with
 | [.cl (.sli .u8 b)],[]=>some (qad b,.leaf (.ret [.cl (.int .i64 ((qgr b).1)),.cl (.int .i64 ((qgr b).2))] []))
 | _,_=>none
def BRLength:Nat->Ct:=tb 144 KR1Num BR1Num
def KR4Less:Ct:=fun xs obs=>match xs,obs with
 | [.cl (.sli .u8 a),.cl (.sli .u8 b)],[]=>some (qc6 a,.leaf (.ret [.cl (.bool (qn3 a b))] []))
 | _,_=>none
def BR4Less:Nat->Ct:=tb 102 KRLength BRLength
def KUWord:Ct:=fun xs obs=>match xs,obs with
 | [.cl (.sli .u8 b)],[]=>some (qad b&&decide (8<=b.length),.leaf (.ret [.cl (.int .u64 (u8Word b))] []))
 | _,_=>none
def BUWord:Nat->Ct:=tb 111 KR4Less BR4Less
def KUValid:Ct:=fun xs obs=>match xs,obs with
 | [.cl (.sli .u8 b)],[]=>some (qad b,.leaf (.ret [.cl (.bool (u8Valid b))] []))
 | _,_=>none
def BUValid:Nat->Ct:=tb 171 KUWord BUWord
def KDFits:Ct:=fun xs obs=>match xs,obs with
 | [.cl (.int .i64 tag),.cl (.sli .u8 b)],[]=>some (qad b,.leaf (.ret [.cl (.bool (qcs tag b))] []))
 | _,_=>none
def BDFits:Nat->Ct:=tb 135 KUValid BUValid
def KRFits:Ct:=fun xs obs=>match xs,obs with
 | [.cl (.int .i64 tag),.cl (.sli .u8 b)],[]=>some (qad b,.leaf (.ret [.cl (.bool (qcs tag b))] []))
 | _,_=>none
def BRFits:Nat->Ct:=tb 90 KDFits BDFits
def KR4Sorted:Ct:=fun xs obs=>match xs,obs with
 | [.cl (.slg 1 l)],[]=>some (qhm l,.leaf (.ret [.cl (.bool (qbn l))] []))
 | _,_=>none
def BR4Sorted:Nat->Ct:=tb 104 KRFits BRFits
def SBACompare:List V->List Obj->Tree:=fun xs obs=>match xs,obs with
 | [.cl (.sli .u8 a),.cl (.sli .u8 b)],[]=>.leaf (.ret [.cl (.int .i64 (qgx a b))] [])
 | _,_=>.fail
def qh6:List V->List Obj->Bool:=fun xs obs=>match xs,obs with
 | [.cl (.sli .u8 a),.cl (.sli .u8 b)],[]=>qad a&&qad b
 | _,_=>false
def BBACompare:Nat->Ct:=tb 105 KR4Sorted BR4Sorted
def KBCompare:Ct:=fun xs obs=>match xs,obs with
 | [.cl (.sli .u8 a),.cl (.sli .u8 b)],[]=>some (qad a&&qad b,.leaf (.ret [.cl (.int .i64 (qgx a b))] []))
 | _,_=>none
def BBCompare:Nat->Ct:=tb 185 (ofS qh6 SBACompare) BBACompare
def KOLess:Ct:=fun xs obs=>match xs,obs with
 | [.cl (.sli .u8 a),.cl (.sli .u8 b)],[]=>some (qad a&&qad b,.leaf (.ret [.cl (.bool (decide (qgx a b<=0)))] []))
 | _,_=>none
def BOLess:Nat->Ct:=tb 161 KBCompare BBCompare
def KOSteps:Ct:=fun xs obs=>match xs,obs with
 | [.cl (.slg 1 l),.cl (.fn (.func 160) [] [])],[]=>some (qhm l,.leaf (.ret [.cl (.bool (qbn l))] []))
 | _,_=>none
def BOSteps:Nat->Ct:=tb 160 KOLess BOLess
def KOSorted:Ct:=fun xs obs=>match xs,obs with
 | [.cl (.slg 1 l)],[]=>some (qhm l,.leaf (.ret [.cl (.bool (qbn l))] []))
 | _,_=>none
def BOSorted:Nat->Ct:=tb 159 KOSteps BOSteps
def qul:List V->List Obj->Tree:=fun xs obs=>match xs,obs with
 | [.cl (.sli .u8 b),.cl (.int .i64 deep)],[]=>.leaf (.ret [.cl (.agg [.int .i64 ((qd7 b deep).1.1),.sli .u8 ((qd7 b deep).1.2.1),.slg 3 ((qd7 b deep).1.2.2)]),.cl (.int .i64 ((qd7 b deep).2.1)),.cl (.int .i64 ((qd7 b deep).2.2))] [])
 | _,_=>.fail
def qps:List V->List Obj->Bool:=fun xs obs=>match xs,obs with
 | [.cl (.sli .u8 b),.cl (.int .i64 deep)],[]=>qad b&&qcg deep
 | _,_=>false
def qsu (rk:Nat):List V->List Obj->Bool:=fun xs obs=>match xs,obs with
 | [.cl (.sli .u8 b),.cl (.int .i64 deep)],[]=>qad b&&(qcg deep&&decide (deep.toNat<rk))
 | _,_=>false
def xbla:Nat->Ct:=tb 123 KOSorted BOSorted
def KRParse:Ct:=fun xs obs=>match xs,obs with
 | [.cl (.sli .u8 b)],[]=>some (qad b,.leaf (.ret [.cl (.agg [.int .i64 ((qa9 b).1.1),.sli .u8 ((qa9 b).1.2.1),.slg 3 ((qa9 b).1.2.2)]),.cl (.int .i64 ((qa9 b).2))] []))
 | _,_=>none
def BRParse:Nat->Ct:=tb 59 (ofS qps qul) xbla
def KDMust:Ct:=fun xs obs=>match xs,obs with
 | [.cl (.bool true),.cl (.int .i64 e)],[]=>some (true,.leaf (.ret [] []))
 | [.cl (.bool false),.cl (.int .i64 e)],[]=>some (true,.ite (true) (.leaf (.pan (.iface 85 (.agg [.int .i64 e])) [])) (.leaf (.ret [] [])))
 | _,_=>none
def BDMust:Nat->Ct:=tb 30 KRParse BRParse
def KDNext:Ct:=fun xs obs=>match xs,obs with
 | [.ptr 0 0 0],[⟨.var [.cl (.sli .u8 l),.cl (.int .i64 d)],false⟩]=>some (qad l,.ite (l.isEmpty) (.leaf (.pan (.iface 85 (.agg [.int .i64 1])) [some ⟨.var [.cl (.sli .u8 l),.cl (.int .i64 d)],false⟩])) (.leaf (.ret [.cl (.int .i64 (l.headD 0))] [some ⟨.var [.cl (.sli .u8 l.tail),.cl (.int .i64 d)],false⟩])))
 | _,_=>none
def BDNext:Nat->Ct:=tb 49 KDMust BDMust
def KDLength:Ct:=fun xs obs=>match xs,obs with
 | [.ptr 0 0 0],[⟨.var [.cl (.sli .u8 l),.cl (.int .i64 d)],false⟩]=>some (qad l,.ite (!(qo3 l)) (.leaf (.pan (.iface 85 (.agg [.int .i64 1])) [some ⟨.var [.cl (.sli .u8 (qgt l)),.cl (.int .i64 d)],false⟩])) (.leaf (.ret [.cl (.int .i64 ((qea l).1))] [some ⟨.var [.cl (.sli .u8 ((qea l).2)),.cl (.int .i64 d)],false⟩])))
 | _,_=>none
def BDLength:Nat->Ct:=tb 86 KDNext BDNext
def SDValue:List V->List Obj->Tree:=fun xs obs=>match xs,obs with
 | [.ptr 0 0 0],[⟨.var [.cl (.sli .u8 l),.cl (.int .i64 d)],false⟩]=>.ite (!(decide ((qk4 l d).1=0))) (.leaf (.pan (.iface 85 (.agg [.int .i64 ((qk4 l d).1)])) [some ⟨.var [.cl (.sli .u8 ((qk4 l d).2.2)),.cl (.int .i64 d)],false⟩])) (.leaf (.ret [.cl (.agg [.int .i64 ((qk4 l d).2.1.1),.sli .u8 ((qk4 l d).2.1.2.1),.slg 3 ((qk4 l d).2.1.2.2)])] [some ⟨.var [.cl (.sli .u8 ((qk4 l d).2.2)),.cl (.int .i64 d)],false⟩]))
 | _,_=>.fail
def qma:List V->List Obj->Bool:=fun xs obs=>match xs,obs with
 | [.ptr 0 0 0],[⟨.var [.cl (.sli .u8 l),.cl (.int .i64 d)],false⟩]=>qad l&&qcg d
 | _,_=>false
def qjh (rk:Nat):List V->List Obj->Bool:=fun xs obs=>match xs,obs with
 | [.ptr 0 0 0],[⟨.var [.cl (.sli .u8 l),.cl (.int .i64 d)],false⟩]=>qad l&&(qcg d&&decide (d.toNat<rk))
 | _,_=>false
def BDValue:Nat->Ct:=tb 88 KDLength BDLength
def SDParts:List V->List Obj->Tree:=fun xs obs=>match xs,obs with
 | [.ptr 0 0 0,.cl (.int .i64 tag),.cl (.sli .u8 b)],[⟨.var [.cl (.sli .u8 l),.cl (.int .i64 d)],false⟩]=>.ite (!(decide ((qbb tag b d).1=0))) (.leaf (.pan (.iface 85 (.agg [.int .i64 ((qbb tag b d).1)])) [some ⟨.var [.cl (.sli .u8 l),.cl (.int .i64 d)],false⟩])) (.leaf (.ret [.cl (.agg [.int .i64 ((qbb tag b d).2.1),.sli .u8 ((qbb tag b d).2.2.1),.slg 3 ((qbb tag b d).2.2.2)])] [some ⟨.var [.cl (.sli .u8 l),.cl (.int .i64 d)],false⟩]))
 | _,_=>.fail
def qpz:List V->List Obj->Bool:=fun xs obs=>match xs,obs with
 | [.ptr 0 0 0,.cl (.int .i64 tag),.cl (.sli .u8 b)],[⟨.var [.cl (.sli .u8 l),.cl (.int .i64 d)],false⟩]=>qad b&&(qcg d&&decide (0<d))
 | _,_=>false
def qsr (rk:Nat):List V->List Obj->Bool:=fun xs obs=>match xs,obs with
 | [.ptr 0 0 0,.cl (.int .i64 tag),.cl (.sli .u8 b)],[⟨.var [.cl (.sli .u8 l),.cl (.int .i64 d)],false⟩]=>qad b&&(qcg d&&decide (0<d/\d.toNat<rk+1))
 | _,_=>false
def BDParts:Nat->Ct:=tb 48 (ofS qma SDValue) BDValue
def SDParse:List V->List Obj->Tree:=fun xs obs=>match xs,obs with
 | [.cl (.sli .u8 b)],[]=>.leaf (.ret [.cl (.agg [.int .i64 ((qa9 b).1.1),.sli .u8 ((qa9 b).1.2.1),.slg 3 ((qa9 b).1.2.2)]),.cl (.int .i64 ((qa9 b).2))] [])
 | _,_=>.fail
def qvz:List V->List Obj->Bool:=fun xs obs=>match xs,obs with
 | [.cl (.sli .u8 b)],[]=>qad b
 | _,_=>false
def BDParse:Nat->Ct:=tb 89 (ofS qpz SDParts) BDParts
def SDSize:List V->List Obj->Tree:=fun xs obs=>match xs,obs with
 | [.cl (.agg a),.cl (.int .i64 deep)],[]=>.leaf (.ret [.cl (.int .i64 (q1s a deep))] [])
 | _,_=>.fail
def qqm:List V->List Obj->Bool:=fun xs obs=>match xs,obs with
 | [.cl (.agg a),.cl (.int .i64 deep)],[]=>isS a&&qcg deep
 | _,_=>false
def qkn (rk:Nat):List V->List Obj->Bool:=fun xs obs=>match xs,obs with
 | [.cl (.agg a),.cl (.int .i64 deep)],[]=>isSr rk a&&qcg deep
 | _,_=>false
def BDSize:Nat->Ct:=tb 23 (ofS qvz SDParse) BDParse
def KDPut:Ct:=fun xs obs=>match xs,obs with
 | [.nils,.cl (.int .i64 tag),.cl (.int .i64 n)],[]=>some (qk1 tag n,.leaf (.ret [.ref 0 0 ((qdh tag n).length) true 1] [some ⟨.ints .u8 (qdh tag n),false⟩]))
 | _,_=>none
def BDPut:Nat->Ct:=tb 73 (ofS qqm SDSize) BDSize
def KRHead:Ct:=fun xs obs=>match xs,obs with
 | [.cl (.int .i64 tag),.cl (.int .i64 n)],[]=>some (qk1 tag n,.leaf (.ret [.ref 0 0 ((qdh tag n).length) true 1] [some ⟨.ints .u8 (qdh tag n),false⟩]))
 | _,_=>none
def BRHead:Nat->Ct:=tb 122 KDPut BDPut
def KR1Join:Ct:=fun xs obs=>match xs,obs with
 | [.cl (.slg 1 l)],[]=>some (qnk l,.leaf (.ret [.cl (.sli .u8 (qdk l))] []))
 | _,_=>none
def BR1Join:Nat->Ct:=tb 128 KRHead BRHead
def SSGrow:List V->List Obj->Tree:=fun xs obs=>match xs,obs with
 | [.nils,.cl (.int .i64 n)],[]=>.leaf (.ret [.ref 0 0 0 true 1] [some ⟨.ints .u8 qa0,false⟩])
 | _,_=>.fail
def quv:List V->List Obj->Bool:=fun xs obs=>match xs,obs with
 | [.nils,.cl (.int .i64 n)],[]=>qyj n
 | _,_=>false
def BSGrow:Nat->Ct:=tb 129 KR1Join BR1Join
def KSConcat:Ct:=fun xs obs=>match xs,obs with
 | [.cl (.slg 1 l)],[]=>some (qnk l,.leaf (.ret [.cl (.sli .u8 (qdk l))] []))
 | _,_=>none
def BSConcat:Nat->Ct:=tb 162 (ofS quv SSGrow) BSGrow
def SDWrite:List V->List Obj->Tree:=fun xs obs=>match xs,obs with
 | [.cl (.agg a)],[]=>.leaf (.ret [.cl (.sli .u8 ((qjx a).1)),.cl (.bool ((qjx a).2))] [])
 | _,_=>.fail
def qmt:List V->List Obj->Bool:=fun xs obs=>match xs,obs with
 | [.cl (.agg a)],[]=>isW a
 | _,_=>false
def qha (rk:Nat):List V->List Obj->Bool:=fun xs obs=>match xs,obs with
 | [.cl (.agg a)],[]=>isWr rk a
 | _,_=>false
def BDWrite:Nat->Ct:=tb 124 KSConcat BSConcat
def SRWrite:List V->List Obj->Tree:=fun xs obs=>match xs,obs with
 | [.cl (.agg a),.cl (.int .i64 deep)],[]=>.leaf (.ret [.cl (.sli .u8 ((qgg a deep).1)),.cl (.bool ((qgg a deep).2))] [])
 | _,_=>.fail
def ql7:List V->List Obj->Bool:=fun xs obs=>match xs,obs with
 | [.cl (.agg a),.cl (.int .i64 deep)],[]=>isS a&&qcg deep
 | _,_=>false
def qhc (rk:Nat):List V->List Obj->Bool:=fun xs obs=>match xs,obs with
 | [.cl (.agg a),.cl (.int .i64 deep)],[]=>isSr rk a&&qcg deep
 | _,_=>false
def BRWrite:Nat->Ct:=tb 74 (ofS qmt SDWrite) BDWrite
def SDBytes:List V->List Obj->Tree:=fun xs obs=>match xs,obs with
 | [.cl (.agg a)],[]=>.leaf (.ret [.cl (.sli .u8 ((qbq a).1)),.cl (.int .i64 ((qbq a).2))] [])
 | _,_=>.fail
def qh7:List V->List Obj->Bool:=fun xs obs=>match xs,obs with
 | [.cl (.agg a)],[]=>isS a
 | _,_=>false
def BDBytes:Nat->Ct:=tb 77 (ofS ql7 SRWrite) BRWrite
def xbnd:List V->List Obj->Tree:=fun xs obs=>match xs,obs with
 | [.cl (.agg a)],[]=>.leaf (.ret [.cl (.bool (qz2 a))] [])
 | _,_=>.fail
def qn7:List V->List Obj->Bool:=fun xs obs=>match xs,obs with
 | [.cl (.agg a)],[]=>isS a
 | _,_=>false
def xbup:Nat->Ct:=tb 36 (ofS qh7 SDBytes) BDBytes
def SRBytes:List V->List Obj->Tree:=fun xs obs=>match xs,obs with
 | [.cl (.agg a)],[]=>.leaf (.ret [.cl (.sli .u8 ((qbq a).1)),.cl (.int .i64 ((qbq a).2))] [])
 | _,_=>.fail
def qie:List V->List Obj->Bool:=fun xs obs=>match xs,obs with
 | [.cl (.agg a)],[]=>isS a
 | _,_=>false
def BRBytes:Nat->Ct:=tb 72 (ofS qn7 xbnd) xbup
def xbqe:List V->List Obj->Tree:=fun xs obs=>match xs,obs with
 | [.cl (.agg a)],[]=>.leaf (.ret [.cl (.bool (qz2 a))] [])
 | _,_=>.fail
def qoc:List V->List Obj->Bool:=fun xs obs=>match xs,obs with
 | [.cl (.agg a)],[]=>isS a
 | _,_=>false
def xbvt:Nat->Ct:=tb 38 (ofS qie SRBytes) BRBytes
def KSEq32:Ct:=fun xs obs=>match xs,obs with
 | [.cl (.sli .u32 a),.cl (.sli .u32 b)],[]=>some (qc6 a,.leaf (.ret [.cl (.bool (qcj a b))] []))
 | _,_=>none
def BSEq32:Nat->Ct:=tb 66 (ofS qoc xbqe) xbvt
def KOSame:Ct:=fun xs obs=>match xs,obs with
 | [.cl (.sli .u32 a),.cl (.sli .u32 b)],[]=>some (qc6 a,.leaf (.ret [.cl (.bool (qcj a b))] []))
 | _,_=>none
def BOSame:Nat->Ct:=tb 177 KSEq32 BSEq32
def KOPut:Ct:=fun xs obs=>match xs,obs with
 | [.nils,.cl (.int .u32 n)],[]=>some (u32Ok n,.leaf (.ret [.ref 0 0 ((qbk n).length) true 1] [some ⟨.ints .u8 (qbk n),false⟩]))
 | [.ref 0 0 m true 1,.cl (.int .u32 n)],[⟨.ints .u8 l,false⟩]=>some (u32Ok n&&qc6 l,.leaf (.ret [.ref 1 0 ((l++qbk n).length) true 1] [none,some ⟨.ints .u8 (l++qbk n),false⟩]))
 | _,_=>none
def BOPut:Nat->Ct:=tb 139 KOSame BOSame
def KR2Groups:Ct:=fun xs obs=>match xs,obs with
 | [.cl (.int .u32 n)],[]=>some (u32Ok n,.leaf (.ret [.ref 0 0 ((qbk n).length) true 1] [some ⟨.ints .u8 (qbk n),false⟩]))
 | _,_=>none
def BR2Groups:Nat->Ct:=tb 184 KOPut BOPut
def KOBytes:Ct:=fun xs obs=>match xs,obs with
 | [.cl (.sli .u32 o)],[]=>some (qs5 o,.leaf (.ret [.cl (.sli .u8 (qa3 o))] []))
 | _,_=>none
def BOBytes:Nat->Ct:=tb 183 KR2Groups BR2Groups
def KR2Bytes:Ct:=fun xs obs=>match xs,obs with
 | [.cl (.sli .u32 o)],[]=>some (qs5 o,.leaf (.ret [.cl (.sli .u8 (qa3 o))] []))
 | _,_=>none
def BR2Bytes:Nat->Ct:=tb 156 KOBytes BOBytes
def KVBNum:Ct:=fun xs obs=>match xs,obs with
 | [.cl (.sli .u8 b)],[]=>some (num8 b,.leaf (.ret [.cl (.int .u64 (qg0 b))] []))
 | _,_=>none
def BVBNum:Nat->Ct:=tb 154 KR2Bytes BR2Bytes
def KVLe:Ct:=fun xs obs=>match xs,obs with
 | [.cl (.int .u64 n),.cl (.int .i64 8)],[]=>some (u64Ok n,.leaf (.ret [.ref 0 0 8 true 1] [some ⟨.ints .u8 (vLe n),false⟩]))
 | _,_=>none
def BVLe:Nat->Ct:=tb 92 KVBNum BVBNum
def KVReverse:Ct:=fun xs obs=>match xs,obs with
 | [.ref 0 0 8 true 1],[⟨.ints .u8 l,false⟩]=>some (xbsf l,.leaf (.ret [] [some ⟨.ints .u8 (vRev l),false⟩]))
 | _,_=>none
def BVReverse:Nat->Ct:=tb 157 KVLe BVLe
def KVBe:Ct:=fun xs obs=>match xs,obs with
 | [.cl (.int .u64 n),.cl (.int .i64 8)],[]=>some (u64Ok n,.leaf (.ret [.cl (.sli .u8 (vBe n))] []))
 | _,_=>none
def BVBe:Nat->Ct:=tb 158 KVReverse BVReverse
def KVR1Be:Ct:=fun xs obs=>match xs,obs with
 | [.cl (.int .u64 n),.cl (.int .i64 8)],[]=>some (u64Ok n,.leaf (.ret [.cl (.sli .u8 (vBe n))] []))
 | _,_=>none
def BVR1Be:Nat->Ct:=tb 120 KVBe BVBe
def KVInt:Ct:=fun xs obs=>match xs,obs with
 | [.cl (.int .i64 n)],[]=>some (q67 n,.leaf (.ret [.cl (.agg [.int .i64 2,.sli .u8 (vInt n),.slg 3 qb2])] []))
 | _,_=>none
def BVInt:Nat->Ct:=tb 114 KVR1Be BVR1Be
def KVRInt:Ct:=fun xs obs=>match xs,obs with
 | [.cl (.int .i64 n)],[]=>some (q67 n,.leaf (.ret [.cl (.agg [.int .i64 2,.sli .u8 (vInt n),.slg 3 qb2])] []))
 | _,_=>none
def BVRInt:Nat->Ct:=tb 71 KVInt BVInt
def KVNumber:Ct:=fun xs obs=>match xs,obs with
 | [.cl (.sli .u8 b)],[]=>some (qad b,.leaf (.ret [.cl (.int .i64 ((qor b).1)),.cl (.int .i64 ((qor b).2))] []))
 | _,_=>none
def BVNumber:Nat->Ct:=tb 65 KVRInt BVRInt
def xbev:Ct:=fun xs obs=>match xs,obs with
 | [.cl (.agg [.int .i64 t,.sli .u8 b,.slg 3 k]),.cl (.int .i64 2),.cl (.fn (.func 53) [] [])],[]=>some (isS [.int .i64 t,.sli .u8 b,.slg 3 k],.leaf (.ret [.cl (.int .i64 ((qdm t b k).1)),.cl (.int .i64 ((qdm t b k).2))] []))
 | _,_=>none
def xbcm:Nat->Ct:=tb 53 KVNumber BVNumber
def xbbu:Ct:=fun xs obs=>match xs,obs with
 | [.cl (.agg [.int .i64 t,.sli .u8 b,.slg 3 k]),.cl (.int .i64 6),.cl (.fn (.func 134) [] [])],[]=>some (isS [.int .i64 t,.sli .u8 b,.slg 3 k],.leaf (.ret [.cl (.sli .u32 ((qos t b k).1)),.cl (.int .i64 ((qos t b k).2))] []))
 | _,_=>none
def xbdb:Nat->Ct:=tb 52 xbev xbcm
def xbeq:Ct:=fun xs obs=>match xs,obs with
 | [.cl (.agg [.int .i64 t,.sli .u8 b,.slg 3 k])],[]=>some (isS [.int .i64 t,.sli .u8 b,.slg 3 k],.leaf (.ret [.cl (.int .i64 ((qdm t b k).1)),.cl (.int .i64 ((qdm t b k).2))] []))
 | _,_=>none
def xba3:Nat->Ct:=tb 137 xbbu xbdb
def qwg:Ct:=fun xs obs=>match xs,obs with
 | [.cl (.agg [.int .i64 t,.sli .u8 b,.slg 3 k])],[]=>some (isS [.int .i64 t,.sli .u8 b,.slg 3 k],.leaf (.ret [.cl (.sli .u8 ((qba t b k).1)),.cl (.int .i64 ((qba t b k).2))] []))
 | _,_=>none
def qwq:Nat->Ct:=tb 25 xbeq xba3
def xbph:Ct:=fun xs obs=>match xs,obs with
 | [.cl (.agg [.int .i64 t,.sli .u8 b,.slg 3 k])],[]=>some (isS [.int .i64 t,.sli .u8 b,.slg 3 k],.leaf (.ret [.cl (.sli .u32 ((qos t b k).1)),.cl (.int .i64 ((qos t b k).2))] []))
 | _,_=>none
def xbms:Nat->Ct:=tb 140 qwg qwq
def KVMade:Ct:=fun xs obs=>match xs,obs with
 | [.cl (.int .i64 g),.cl (.sli .u8 b)],[]=>some (qrg g b,.leaf (.ret [.cl (.agg [.int .i64 ((qfq g b).1),.sli .u8 ((qfq g b).2.1),.slg 3 qb2]),.cl (.int .i64 ((qfq g b).2.2))] []))
 | _,_=>none
def BVMade:Nat->Ct:=tb 93 xbph xbms
def KVId:Ct:=fun xs obs=>match xs,obs with
 | [.cl (.sli .u32 o)],[]=>some (idOk o,.leaf (.ret [.cl (.agg [.int .i64 ((qfq 6 (qa3 o)).1),.sli .u8 ((qfq 6 (qa3 o)).2.1),.slg 3 qb2]),.cl (.int .i64 ((qfq 6 (qa3 o)).2.2))] []))
 | _,_=>none
def BVId:Nat->Ct:=tb 155 KVMade BVMade
def KVBytes:Ct:=fun xs obs=>match xs,obs with
 | [.cl (.sli .u8 b)],[]=>some (qc6 b,.leaf (.ret [.cl (.agg [.int .i64 4,.sli .u8 b,.slg 3 qb2])] []))
 | _,_=>none
def BVBytes:Nat->Ct:=tb 118 KVId BVId
def KVRMade:Ct:=fun xs obs=>match xs,obs with
 | [.cl (.int .i64 g),.cl (.sli .u8 b)],[]=>some (qrg g b,.leaf (.ret [.cl (.agg [.int .i64 ((qfq g b).1),.sli .u8 ((qfq g b).2.1),.slg 3 qb2]),.cl (.int .i64 ((qfq g b).2.2))] []))
 | _,_=>none
def BVRMade:Nat->Ct:=tb 119 KVBytes BVBytes
def KVRId:Ct:=fun xs obs=>match xs,obs with
 | [.cl (.sli .u32 o)],[]=>some (idOk o,.leaf (.ret [.cl (.agg [.int .i64 ((qfq 6 (qa3 o)).1),.sli .u8 ((qfq 6 (qa3 o)).2.1),.slg 3 qb2]),.cl (.int .i64 ((qfq 6 (qa3 o)).2.2))] []))
 | _,_=>none
def BVRId:Nat->Ct:=tb 153 KVRMade BVRMade
def KVRBytes:Ct:=fun xs obs=>match xs,obs with
 | [.cl (.sli .u8 b)],[]=>some (qc6 b,.leaf (.ret [.cl (.agg [.int .i64 4,.sli .u8 b,.slg 3 qb2])] []))
 | _,_=>none
def BVRBytes:Nat->Ct:=tb 112 KVRId BVRId
def KVClone:Ct:=fun xs obs=>match xs,obs with
 | [.cl (.slg 3 l)],[]=>some (qbl l,.leaf (.ret [.cl (.slg 3 l)] []))
 | _,_=>none
def BVClone:Nat->Ct:=tb 113 KVRBytes BVRBytes
def KVSeq:Ct:=fun xs obs=>match xs,obs with
 | [.cl (.slg 3 l)],[]=>some (qbl l,.leaf (.ret [.cl (.agg [.int .i64 48,.sli .u8 qa0,.slg 3 l])] []))
 | _,_=>none
def BVSeq:Nat->Ct:=tb 51 KVClone BVClone
def KVBox:Ct:=fun xs obs=>match xs,obs with
 | [.cl (.int .i64 g),.cl (.slg 3 l)],[]=>some (qbl l,.leaf (.ret [.cl (.agg [.int .i64 ((vBox g l).1),.sli .u8 qa0,.slg 3 ((vBox g l).2.1)]),.cl (.int .i64 ((vBox g l).2.2))] []))
 | _,_=>none
def BVBox:Nat->Ct:=tb 70 KVSeq BVSeq
def KVKids:Ct:=fun xs obs=>match xs,obs with
 | [.cl (.agg [.int .i64 t,.sli .u8 b,.slg 3 k]),.cl (.int .i64 g)],[]=>some (qbl k,.leaf (.ret [.cl (.slg 3 ((qb4 g t b k).1)),.cl (.int .i64 ((qb4 g t b k).2))] []))
 | _,_=>none
def BVKids:Nat->Ct:=tb 165 KVBox BVBox
def KVRSeq:Ct:=fun xs obs=>match xs,obs with
 | [.cl (.slg 3 l)],[]=>some (qbl l,.leaf (.ret [.cl (.agg [.int .i64 48,.sli .u8 qa0,.slg 3 l])] []))
 | _,_=>none
def BVRSeq:Nat->Ct:=tb 24 KVKids BVKids
def KVRBox:Ct:=fun xs obs=>match xs,obs with
 | [.cl (.int .i64 g),.cl (.slg 3 l)],[]=>some (qbl l,.leaf (.ret [.cl (.agg [.int .i64 ((vBox g l).1),.sli .u8 qa0,.slg 3 ((vBox g l).2.1)]),.cl (.int .i64 ((vBox g l).2.2))] []))
 | _,_=>none
def BVRBox:Nat->Ct:=tb 64 KVRSeq BVRSeq
def KAAll:Ct:=fun xs obs=>match xs,obs with
 | [],[]=>some (true,.leaf (.ret [.cl (.fn (.func 175) [] [])] []))
 | _,_=>none
def BAAll:Nat->Ct:=tb 130 KVRBox BVRBox
def SAFound:List V->List Obj->Tree:=fun xs obs=>match xs,obs with
 | [.cl (.int .i64 g)],[]=>.leaf (.ret [.cl (.agg [.int .i64 ((qa6 g).1),.int .i64 ((qa6 g).2.1),.sli .u32 ((qa6 g).2.2)])] [])
 | _,_=>.fail
def qws:List V->List Obj->Bool:=fun xs obs=>match xs,obs with
 | [.cl (.int .i64 g)],[]=>true
 | _,_=>false
def BAFound:Nat->Ct:=tb 138 KAAll BAAll
def KAGroup:Ct:=fun xs obs=>match xs,obs with
 | [.cl (.int .i64 g)],[]=>some (true,.leaf (.ret [.cl (.int .i64 ((qa6 g).2.1))] []))
 | _,_=>none
def BAGroup:Nat->Ct:=tb 116 (ofS qws SAFound) BAFound
def KAId:Ct:=fun xs obs=>match xs,obs with
 | [.cl (.int .i64 g)],[]=>some (true,.leaf (.ret [.cl (.sli .u32 ((qa6 g).2.2))] []))
 | _,_=>none
def BAId:Nat->Ct:=tb 96 KAGroup BAGroup
def SAOf:List V->List Obj->Tree:=fun xs obs=>match xs,obs with
 | [.cl (.sli .u32 o)],[]=>.leaf (.ret [.cl (.int .i64 (qz5 o))] [])
 | _,_=>.fail
def xbol:List V->List Obj->Bool:=fun xs obs=>match xs,obs with
 | [.cl (.sli .u32 o)],[]=>true
 | _,_=>false
def BAOf:Nat->Ct:=tb 164 KAId BAId
def KARGroup:Ct:=fun xs obs=>match xs,obs with
 | [.cl (.int .i64 g)],[]=>some (true,.leaf (.ret [.cl (.int .i64 ((qa6 g).2.1))] []))
 | _,_=>none
def BARGroup:Nat->Ct:=tb 94 (ofS xbol SAOf) BAOf
def KARNist:Ct:=fun xs obs=>match xs,obs with
 | [.cl (.int .u32 g),.cl (.int .u32 h)],[]=>some (true,.leaf (.ret [.cl (.sli .u32 (qiy g h))] []))
 | _,_=>none
def BARNist:Nat->Ct:=tb 108 KARGroup BARGroup
def KARPkcs:Ct:=fun xs obs=>match xs,obs with
 | [.cl (.sli .u32 o)],[]=>some (qc6 o,.leaf (.ret [.cl (.sli .u32 (qty o))] []))
 | _,_=>none
def BARPkcs:Nat->Ct:=tb 151 KARNist BARNist
def KARId:Ct:=fun xs obs=>match xs,obs with
 | [.cl (.int .i64 g)],[]=>some (true,.leaf (.ret [.cl (.sli .u32 ((qa6 g).2.2))] []))
 | _,_=>none
def BARId:Nat->Ct:=tb 152 KARPkcs BARPkcs
def KAUsed:Ct:=fun xs obs=>match xs,obs with
 | [.cl (.int .i64 g)],[]=>some (true,.leaf (.ret [.cl (.int .i64 (qi0 g))] []))
 | _,_=>none
def BAUsed:Nat->Ct:=tb 110 KARId BARId
def KANode:Ct:=fun xs obs=>match xs,obs with
 | [.cl (.int .i64 g),.cl (.sli .u8 b)],[]=>some (qc6 b,.leaf (.ret [.cl (.agg [.int .i64 ((qbt g b).1),.sli .u8 qa0,.slg 3 ((qbt g b).2.1)]),.cl (.int .i64 ((qbt g b).2.2))] []))
 | _,_=>none
def BANode:Nat->Ct:=tb 117 KAUsed BAUsed
def KARNode:Ct:=fun xs obs=>match xs,obs with
 | [.cl (.int .i64 g),.cl (.sli .u8 b)],[]=>some (qc6 b,.leaf (.ret [.cl (.agg [.int .i64 ((qbt g b).1),.sli .u8 qa0,.slg 3 ((qbt g b).2.1)]),.cl (.int .i64 ((qbt g b).2.2))] []))
 | _,_=>none
def BARNode:Nat->Ct:=tb 69 KANode BANode
def KATail:Ct:=fun xs obs=>match xs,obs with
 | [.cl (.int .i64 g),.cl (.slg 3 l)],[]=>some (q1g l,.leaf (.ret [.cl (.sli .u8 ((qhy g l).1)),.cl (.bool ((qhy g l).2))] []))
 | _,_=>none
def BATail:Nat->Ct:=tb 63 KARNode BARNode
def KARead:Ct:=fun xs obs=>match xs,obs with
 | [.cl (.agg [.int .i64 t,.sli .u8 b,.slg 3 k])],[]=>some (isS [.int .i64 t,.sli .u8 b,.slg 3 k],.leaf (.ret [.cl (.int .i64 ((qen t b k).1)),.cl (.sli .u8 ((qen t b k).2.1)),.cl (.int .i64 ((qen t b k).2.2))] []))
 | _,_=>none
def BARead:Nat->Ct:=tb 95 KATail BATail
def KMSize:Ct:=fun xs obs=>match xs,obs with
 | [.cl (.int .i64 k)],[]=>some (true,.leaf (.ret [.cl (.int .i64 (qow k))] []))
 | _,_=>none
def BMSize:Nat->Ct:=tb 55 KARead BARead
def KR9Size:Ct:=fun xs obs=>match xs,obs with
 | [.cl (.int .i64 k)],[]=>some (true,.leaf (.ret [.cl (.int .i64 (qow k))] []))
 | _,_=>none
def BR9Size:Nat->Ct:=tb 168 KMSize BMSize
def KFDig:Ct:=fun xs obs=>match xs,obs with
 | [.cl (.sli .u8 b),.ptr 0 0 0],[⟨.var [.cl (.int .i64 s)],false⟩]=>some (qc6 b,.leaf (.ret [.cl (.agg [.int .i64 4,.sli .u8 b,.slg 3 qb2]),.cl (.bool (decide ((b.length:Int)=s)))] [some ⟨.var [.cl (.int .i64 s)],false⟩]))
 | _,_=>none
def BFDig:Nat->Ct:=tb 131 KR9Size BR9Size
def KEDig:Ct:=fun xs obs=>match xs,obs with
 | [.cl (.slg 1 l),.cl (.int .i64 lo),.cl (.int .i64 hi),.fn (.func 188) [] [.ptr 0 0 0]],[⟨.var [.cl (.int .i64 s)],false⟩]=>some (q59 l,.leaf (.ret [.cl (.slg 3 (dgL s lo hi l)),.cl (.bool (dgB s lo hi l))] [some ⟨.var [.cl (.int .i64 s)],false⟩]))
 | _,_=>none
def BEDig:Nat->Ct:=tb 188 KFDig BFDig
def xbqa:Ct:=fun xs obs=>match xs,obs with
 | [.cl (.slg 1 l),.cl (.int .i64 lo),.cl (.int .i64 hi),.fn (.func 188) [] [.ptr 0 0 0]],[⟨.var [.cl (.int .i64 s)],false⟩]=>some (q59 l,.leaf (.ret [.cl (.agg [.int .i64 48,.sli .u8 qa0,.slg 3 (dgL s lo hi l)]),.cl (.bool (dgB s lo hi l))] [some ⟨.var [.cl (.int .i64 s)],false⟩]))
 | _,_=>none
def xbmz:Nat->Ct:=tb 194 KEDig BEDig
def KFPart:Ct:=fun xs obs=>match xs,obs with
 | [.cl (.slg 1 l),.ptr 0 0 0],[⟨.var [.cl (.int .i64 s)],false⟩]=>some (q59 l,.leaf (.ret [.cl (.agg [.int .i64 48,.sli .u8 qa0,.slg 3 (dgL s 1 64 l)]),.cl (.bool (dgB s 1 64 l))] [some ⟨.var [.cl (.int .i64 s)],false⟩]))
 | _,_=>none
def BFPart:Nat->Ct:=tb 187 xbqa xbmz
def KEPart:Ct:=fun xs obs=>match xs,obs with
 | [.cl (.int .i64 s)],[]=>some (true,.leaf (.ret [.fn (.func 186) [] [.ptr 0 0 0]] [some ⟨.var [.cl (.int .i64 s)],false⟩]))
 | _,_=>none
def BEPart:Nat->Ct:=tb 186 KFPart BFPart
def KEPar:Ct:=fun xs obs=>match xs,obs with
 | [.cl (.slg 1 l),.cl (.int .i64 lo),.cl (.int .i64 hi),.fn (.func 186) [] [.ptr 0 0 0]],[⟨.var [.cl (.int .i64 s)],false⟩]=>some (q3h l,.leaf (.ret [.cl (.slg 3 (xbub s lo hi l)),.cl (.bool (xbyv s lo hi l))] [some ⟨.var [.cl (.int .i64 s)],false⟩]))
 | _,_=>none
def BEPar:Nat->Ct:=tb 167 KEPart BEPart
def q9u:Ct:=fun xs obs=>match xs,obs with
 | [.cl (.agg [.int .i64 d,.slg 1 t,.sli .u8 w])],[]=>some (q3h t&&qad w,.leaf (.ret [.cl (.agg [.int .i64 ((q55 d t w).1),.sli .u8 qa0,.slg 3 ((q55 d t w).2)]),.cl (.bool (qy4 d t w))] []))
 | _,_=>none
def xbaf:Nat->Ct:=tb 166 KEPar BEPar
def KEMar:Ct:=fun xs obs=>match xs,obs with
 | [.cl (.slg 3 l),.cl (.int .i64 lo),.cl (.int .i64 hi),.cl (.fn (.func 127) [] [])],[]=>some (qoj l,.leaf (.ret [.cl (.slg 3 (qrd lo hi l)),.cl (.bool (qrf lo hi l))] []))
 | _,_=>none
def BEMar:Nat->Ct:=tb 127 q9u xbaf
def xbqt:Ct:=fun xs obs=>match xs,obs with
 | [.cl (.slg 3 l),.cl (.int .i64 lo),.cl (.int .i64 hi),.cl (.fn (.func 127) [] [])],[]=>some (qoj l,.leaf (.ret [.cl (.agg [.int .i64 48,.sli .u8 qa0,.slg 3 (qrd lo hi l)]),.cl (.bool (qrf lo hi l))] []))
 | _,_=>none
def xbox:Nat->Ct:=tb 163 KEMar BEMar
def q0m:Ct:=fun xs obs=>match xs,obs with
 | [.cl (.slg 3 l)],[]=>some (qoj l,.leaf (.ret [.cl (.agg [.int .i64 48,.sli .u8 qa0,.slg 3 (qrd 1 20 l)]),.cl (.bool (qrf 1 20 l))] []))
 | _,_=>none
def q1p:Nat->Ct:=tb 126 xbqt xbox
def KECha:Ct:=fun xs obs=>match xs,obs with
 | [.cl (.slg 1 l),.cl (.int .i64 lo),.cl (.int .i64 hi),.cl (.fn (.func 76) [] [])],[]=>some (qcb l,.leaf (.ret [.cl (.slg 3 (qpd lo hi l)),.cl (.bool (qme lo hi l))] []))
 | _,_=>none
def BECha:Nat->Ct:=tb 76 q0m q1p
def xbqu:Ct:=fun xs obs=>match xs,obs with
 | [.cl (.slg 1 l),.cl (.int .i64 lo),.cl (.int .i64 hi),.cl (.fn (.func 76) [] [])],[]=>some (qcb l,.leaf (.ret [.cl (.agg [.int .i64 48,.sli .u8 qa0,.slg 3 (qpd lo hi l)]),.cl (.bool (qme lo hi l))] []))
 | _,_=>none
def xbqk:Nat->Ct:=tb 125 KECha BECha
def qu6:Ct:=fun xs obs=>match xs,obs with
 | [.cl (.slg 1 l)],[]=>some (qcb l,.leaf (.ret [.cl (.agg [.int .i64 48,.sli .u8 qa0,.slg 3 (qpd 1 10 l)]),.cl (.bool (qme 1 10 l))] []))
 | _,_=>none
def qww:Nat->Ct:=tb 75 xbqu xbqk
def xbax:List V->List Obj->Tree:=fun xs obs=>match xs,obs with
 | [.nils,.cl (.int .i64 n)],[]=>.leaf (.ret [.ref 0 0 0 true 3] [some ⟨.gen 3 qb2,false⟩])
 | _,_=>.fail
def qpo:List V->List Obj->Bool:=fun xs obs=>match xs,obs with
 | [.nils,.cl (.int .i64 n)],[]=>qyj n
 | _,_=>false
def xbkp:Nat->Ct:=tb 37 qu6 qww
def qv2:Ct:=fun xs obs=>match xs,obs with
 | [.cl (.slg 1 l)],[]=>some (qcb l,.leaf (.ret [.cl (.slg 3 (xbr0 l))] []))
 | _,_=>none
def qwn:Nat->Ct:=tb 79 (ofS qpo xbax) xbkp
def q00:Ct:=fun xs obs=>match xs,obs with
 | [.cl (.sli .i64 l),.cl (.int .i64 d)],[]=>some (qgv l,.leaf (.ret [.cl (.int .i64 (idxI l d))] []))
 | _,_=>none
def q3g:Nat->Ct:=tb 40 qv2 qwn
def xbq3:Ct:=fun xs obs=>match xs,obs with
 | [.cl (.sli .i64 l),.cl (.int .i64 d)],[]=>some (qgv l,.leaf (.ret [.cl (.bool (hasI l d))] []))
 | _,_=>none
def xboq:Nat->Ct:=tb 80 q00 q3g
def xb1m:Ct:=fun xs obs=>match xs,obs with
 | [.cl (.sli .i64 a),.cl (.sli .i64 b)],[]=>some (qgv a,.leaf (.ret [.cl (.bool (xblq a b))] []))
 | _,_=>none
def xb07:Nat->Ct:=tb 41 xbq3 xboq
def xbb9:Ct:=fun xs obs=>match xs,obs with
 | [.cl (.sli .i64 a),.cl (.sli .i64 b)],[]=>some (qgv a,.leaf (.ret [.cl (.bool (xblq a b))] []))
 | _,_=>none
def q92:Nat->Ct:=tb 42 xb1m xb07
def KEDigests:Ct:=fun xs obs=>match xs,obs with
 | [.cl (.slg 1 l)],[]=>some (qcb l,.leaf (.ret [.cl (.sli .i64 (qrw l))] []))
 | _,_=>none
def BEDigests:Nat->Ct:=tb 32 xbb9 q92
def KRDigests:Ct:=fun xs obs=>match xs,obs with
 | [.cl (.slg 1 l)],[]=>some (qcb l,.leaf (.ret [.cl (.sli .i64 (qrw l))] []))
 | _,_=>none
def BRDigests:Nat->Ct:=tb 21 KEDigests BEDigests
def xbnm:Ct:=fun xs obs=>match xs,obs with
 | [.cl (.int .i64 g)],[]=>some (true,.leaf (.ret [.cl (.agg [.int .i64 ((qbt g qa0).1),.sli .u8 qa0,.slg 3 ((qbt g qa0).2.1)]),.cl (.bool (decide ((qbt g qa0).2.2=0)))] []))
 | _,_=>none
def xbqy:Nat->Ct:=tb 17 KRDigests BRDigests
def KEAlg:Ct:=fun xs obs=>match xs,obs with
 | [.cl (.sli .i64 l),.cl (.int .i64 lo),.cl (.int .i64 hi),.cl (.fn (.func 68) [] [])],[]=>some (qs3 l,.leaf (.ret [.cl (.slg 3 (xbju lo hi l)),.cl (.bool (xbnk lo hi l))] []))
 | _,_=>none
def BEAlg:Nat->Ct:=tb 68 xbnm xbqy
def xbqh:Ct:=fun xs obs=>match xs,obs with
 | [.cl (.sli .i64 l),.cl (.int .i64 lo),.cl (.int .i64 hi),.cl (.fn (.func 68) [] [])],[]=>some (qs3 l,.leaf (.ret [.cl (.agg [.int .i64 48,.sli .u8 qa0,.slg 3 (xbju lo hi l)]),.cl (.bool (xbnk lo hi l))] []))
 | _,_=>none
def xbpa:Nat->Ct:=tb 115 KEAlg BEAlg
def KERec:Ct:=fun xs obs=>match xs,obs with
 | [.cl (.agg [.sli .i64 g,.slg 1 c])],[]=>some (qgv g&&recO c,.leaf (.ret [.cl (.agg [.int .i64 ((qk2 g c).1),.sli .u8 qa0,.slg 3 ((qk2 g c).2)]),.cl (.bool (evOk g c))] []))
 | _,_=>none
def BERec:Nat->Ct:=tb 67 xbqh xbpa
def KERFit:Ct:=fun xs obs=>match xs,obs with
 | [.cl (.agg [.sli .i64 g,.slg 1 c])],[]=>some (qgv g&&recO c,.leaf (.ret [.cl (.bool (evOk g c))] []))
 | _,_=>none
def BERFit:Nat->Ct:=tb 35 KERec BERec
def KERSeq:Ct:=fun xs obs=>match xs,obs with
 | [.cl (.agg [.sli .i64 g,.slg 1 c]),.cl (.int .i64 n)],[]=>some (qgv g&&recO c,.leaf (.ret [.cl (.sli .u8 ((qxr g c n).1)),.cl (.int .i64 ((qxr g c n).2))] []))
 | _,_=>none
def BERSeq:Nat->Ct:=tb 15 KERFit BERFit
def KRMark:Ct:=fun xs obs=>match xs,obs with
 | [.cl (.agg [.int .i64 d,.slg 1 t,.sli .u8 w])],[]=>some (q3h t&&qad w,.leaf (.ret [.cl (.agg [.int .i64 ((q2f d t w).1),.sli .u8 qa0,.slg 3 ((q2f d t w).2)]),.cl (.bool (qy4 d t w))] []))
 | _,_=>none
def BRMark:Nat->Ct:=tb 18 KERSeq BERSeq
def KRChains:Ct:=fun xs obs=>match xs,obs with
 | [.cl (.slg 1 l)],[]=>some (qcb l,.leaf (.ret [.cl (.agg [.int .i64 ((qmr l).1),.sli .u8 qa0,.slg 3 ((qmr l).2)]),.cl (.bool (qme 1 10 l))] []))
 | _,_=>none
def BRChains:Nat->Ct:=tb 78 KRMark BRMark
def KRRec:Ct:=fun xs obs=>match xs,obs with
 | [.cl (.agg [.sli .i64 g,.slg 1 c])],[]=>some (qgv g&&recO c,.leaf (.ret [.cl (.agg [.int .i64 ((qk2 g c).1),.sli .u8 qa0,.slg 3 ((qk2 g c).2)]),.cl (.bool (evOk g c))] []))
 | _,_=>none
def BRRec:Nat->Ct:=tb 39 KRChains BRChains
def KRRFit:Ct:=fun xs obs=>match xs,obs with
 | [.cl (.agg [.sli .i64 g,.slg 1 c])],[]=>some (qgv g&&recO c,.leaf (.ret [.cl (.bool (evOk g c))] []))
 | _,_=>none
def BRRFit:Nat->Ct:=tb 34 KRRec BRRec
def q8w:Ct:=fun xs obs=>match xs,obs with
 | [.cl (.agg [.int .i64 t,.sli .u8 b,.slg 3 k])],[]=>some (isS [.int .i64 t,.sli .u8 b,.slg 3 k],.leaf (.ret [.cl (.sli .u8 ((qba t b k).1)),.cl (.bool (decide ((qba t b k).2=0)))] []))
 | _,_=>none
def xbef:Nat->Ct:=tb 12 KRRFit BRRFit
def xbm6:Ct:=fun xs obs=>match xs,obs with
 | [.cl (.slg 3 l),.cl (.int .i64 lo),.cl (.int .i64 hi),.cl (.fn (.func 143) [] [])],[]=>some (qgj l,.leaf (.ret [.cl (.slg 1 (qy1 lo hi l)),.cl (.bool (qym lo hi l))] []))
 | _,_=>none
def xbp4:Nat->Ct:=tb 143 q8w xbef
def xboo:Ct:=fun xs obs=>match xs,obs with
 | [.cl (.agg [.int .i64 t,.sli .u8 b,.slg 3 k]),.cl (.int .i64 g),.cl (.fn (.func 143) [] [])],[]=>some (isS [.int .i64 t,.sli .u8 b,.slg 3 k],.leaf (.ret [.cl (.slg 1 (ldL g t b k)),.cl (.bool (ldB g t b k))] []))
 | _,_=>none
def xbrg:Nat->Ct:=tb 178 xbm6 xbp4
def q0n:Ct:=fun xs obs=>match xs,obs with
 | [.cl (.agg [.int .i64 t,.sli .u8 b,.slg 3 k])],[]=>some (isS [.int .i64 t,.sli .u8 b,.slg 3 k],.leaf (.ret [.cl (.slg 1 (ldL 48 t b k)),.cl (.bool (ldB 48 t b k))] []))
 | _,_=>none
def q2q:Nat->Ct:=tb 142 xboo xbrg
def xbmb:Ct:=fun xs obs=>match xs,obs with
 | [.cl (.slg 3 l),.cl (.int .i64 lo),.cl (.int .i64 hi),.cl (.fn (.func 99) [] [])],[]=>some (qgj l,.leaf (.ret [.cl (.slg 1 (qr6 lo hi l)),.cl (.bool (qss lo hi l))] []))
 | _,_=>none
def xbl5:Nat->Ct:=tb 99 q0n q2q
def xbqp:Ct:=fun xs obs=>match xs,obs with
 | [.cl (.agg [.int .i64 t,.sli .u8 b,.slg 3 k]),.cl (.int .i64 g),.cl (.fn (.func 99) [] [])],[]=>some (isS [.int .i64 t,.sli .u8 b,.slg 3 k],.leaf (.ret [.cl (.slg 1 (lpL g t b k)),.cl (.bool (lpB g t b k))] []))
 | _,_=>none
def xbpj:Nat->Ct:=tb 141 xbmb xbl5
def q1e:Ct:=fun xs obs=>match xs,obs with
 | [.cl (.agg [.int .i64 t,.sli .u8 b,.slg 3 k])],[]=>some (isS [.int .i64 t,.sli .u8 b,.slg 3 k],.leaf (.ret [.cl (.int .i64 ((qr8 t b k).1)),.cl (.bool ((qr8 t b k).2))] []))
 | _,_=>none
def q0z:Nat->Ct:=tb 98 xbqp xbpj
def q2i:Ct:=fun xs obs=>match xs,obs with
 | [.cl (.agg [.int .i64 t,.sli .u8 b,.slg 3 k])],[]=>some (isS [.int .i64 t,.sli .u8 b,.slg 3 k],.leaf (.ret [.cl (.agg [.int .i64 ((markOf t b k).1),.slg 1 ((markOf t b k).2.1),.sli .u8 ((markOf t b k).2.2.1)]),.cl (.bool ((markOf t b k).2.2.2))] []))
 | _,_=>none
def q1o:Nat->Ct:=tb 100 q1e q0z
def xbmo:Ct:=fun xs obs=>match xs,obs with
 | [.cl (.slg 3 l),.cl (.int .i64 lo),.cl (.int .i64 hi),.cl (.fn (.func 58) [] [])],[]=>some (qgj l,.leaf (.ret [.cl (.slg 3 (qsc lo hi l)),.cl (.bool (qqu lo hi l))] []))
 | _,_=>none
def xbl3:Nat->Ct:=tb 58 q2i q1o
def xbme:Ct:=fun xs obs=>match xs,obs with
 | [.cl (.agg [.int .i64 t,.sli .u8 b,.slg 3 k]),.cl (.int .i64 g),.cl (.fn (.func 58) [] [])],[]=>some (isS [.int .i64 t,.sli .u8 b,.slg 3 k],.leaf (.ret [.cl (.slg 3 (lmL g t b k)),.cl (.bool (lmB g t b k))] []))
 | _,_=>none
def xbny:Nat->Ct:=tb 97 xbmo xbl3
def qvr:Ct:=fun xs obs=>match xs,obs with
 | [.cl (.agg [.int .i64 t,.sli .u8 b,.slg 3 k])],[]=>some (isS [.int .i64 t,.sli .u8 b,.slg 3 k],.leaf (.ret [.cl (.slg 3 (lmL 48 t b k)),.cl (.bool (lmB 48 t b k))] []))
 | _,_=>none
def qwy:Nat->Ct:=tb 57 xbme xbny
def xbmx:Ct:=fun xs obs=>match xs,obs with
 | [.cl (.slg 3 l),.cl (.int .i64 lo),.cl (.int .i64 hi),.cl (.fn (.func 29) [] [])],[]=>some (qgj l,.leaf (.ret [.cl (.slg 1 (ql6 lo hi l)),.cl (.bool (qmd lo hi l))] []))
 | _,_=>none
def xbrs:Nat->Ct:=tb 29 qvr qwy
def xbne:Ct:=fun xs obs=>match xs,obs with
 | [.cl (.agg [.int .i64 t,.sli .u8 b,.slg 3 k]),.cl (.int .i64 g),.cl (.fn (.func 29) [] [])],[]=>some (isS [.int .i64 t,.sli .u8 b,.slg 3 k],.leaf (.ret [.cl (.slg 1 (lcL g t b k)),.cl (.bool (lcB g t b k))] []))
 | _,_=>none
def xbof:Nat->Ct:=tb 56 xbmx xbrs
def q9y:Ct:=fun xs obs=>match xs,obs with
 | [.cl (.agg [.int .i64 t,.sli .u8 b,.slg 3 k])],[]=>some (isS [.int .i64 t,.sli .u8 b,.slg 3 k],.leaf (.ret [.cl (.int .i64 ((qen t b k).1)),.cl (.bool (decide ((qen t b k).2.2=0)))] []))
 | _,_=>none
def q8s:Nat->Ct:=tb 28 xbne xbof
def xbq0:Ct:=fun xs obs=>match xs,obs with
 | [.cl (.slg 3 l),.cl (.int .i64 lo),.cl (.int .i64 hi),.cl (.fn (.func 27) [] [])],[]=>some (qgj l,.leaf (.ret [.cl (.sli .i64 (qzh lo hi l)),.cl (.bool (qzz lo hi l))] []))
 | _,_=>none
def xbna:Nat->Ct:=tb 27 q9y q8s
def xbni:Ct:=fun xs obs=>match xs,obs with
 | [.cl (.agg [.int .i64 t,.sli .u8 b,.slg 3 k]),.cl (.int .i64 g),.cl (.fn (.func 27) [] [])],[]=>some (isS [.int .i64 t,.sli .u8 b,.slg 3 k],.leaf (.ret [.cl (.sli .i64 (laL g t b k)),.cl (.bool (laB g t b k))] []))
 | _,_=>none
def xbpg:Nat->Ct:=tb 54 xbq0 xbna
def KEParse:Ct:=fun xs obs=>match xs,obs with
 | [.cl (.sli .u8 b)],[]=>some (qad b&&b6k b,.leaf (.ret [.cl (.agg [.sli .i64 ((qm2 b).1),.slg 1 ((qm2 b).2.1)]),.cl (.int .i64 ((qm2 b).2.2))] []))
 | _,_=>none
def BEParse:Nat->Ct:=tb 26 xbni xbpg
def KRESmall:Ct:=fun xs obs=>match xs,obs with
 | [.cl (.agg [.sli .i64 g,.slg 1 c]),.cl (.int .i64 n)],[]=>some (recT g c&&qzj n,.leaf (.ret [.cl (.int .i64 (qjz g c n))] []))
 | _,_=>none
def BRESmall:Nat->Ct:=tb 8 KEParse BEParse
def KWSmall:Ct:=fun xs obs=>match xs,obs with
 | [.cl (.agg [.sli .i64 g,.slg 1 c])],[]=>some (recT g c,.leaf (.ret [.cl (.bool (xbry g c))] []))
 | _,_=>none
def BWSmall:Nat->Ct:=tb 16 KRESmall BRESmall
def KWAwake:Ct:=fun xs obs=>match xs,obs with
 | [],[]=>some (true,.leaf (.ret [.cl (.bool true)] []))
 | _,_=>none
def BWAwake:Nat->Ct:=tb 11 KWSmall BWSmall
def SWFirst:List V->List Obj->Tree:=fun xs obs=>match xs,obs with
 | [.cl (.agg [.sli .i64 g,.slg 1 c]),.cl (.slg 3 l),.cl (.int .u8 n)],[]=>.leaf (.ret [.cl (.bool true)] [])
 | _,_=>.fail
def qup:List V->List Obj->Bool:=fun xs obs=>match xs,obs with
 | [.cl (.agg [.sli .i64 g,.slg 1 c]),.cl (.slg 3 l),.cl (.int .u8 n)],[]=>recT g c&&(qsf l&&u8Ok n)
 | _,_=>false
def BWFirst:Nat->Ct:=tb 7 KWAwake BWAwake
end
end Go.Proofs.YtoaakappnhemiaaGreatDoorA
