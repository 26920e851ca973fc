/-
 Times as plain functions: what the stamp layer computes. Conditions: none.
-/
import Derived.Test.YtoaakappnhemiaaGreatDoorK3
import Derived.Lib.ItoaMem
import Derived.Lib.ParseIntB
import Derived.Lib.Split
import Derived.Lib.CountLaws
import Derived.Lib.IndexBytes
import Derived.Lib.Join
import Derived.Lib.LaidTab
import Derived.Test.YtoaakappnhemiaaGreatDoorProg
set_option linter.unusedVariables false
set_option linter.unusedSimpArgs false
set_option maxRecDepth 100000
namespace Go.Proofs.YtoaakappnhemiaaGreatDoorA
noncomputable section
abbrev zR(l:List V)(o:List (Option Obj)):Option Out:=some (.ret l o)
abbrev zvi(n:Int):V:=.cl (.int .i64 n)
abbrev zvl(l:List Int):V:=.cl (.sli .u8 l)
abbrev zvg(l:List CV):V:=.cl (.slg 3 l)
abbrev zvb(b:Bool):V:=.cl (.bool b)
abbrev zB(b:Bool):Option Out:=some (.ret [.cl (.bool b)] [])
abbrev zI(n:Int):Option Out:=some (.ret [.cl (.int .i64 n)] [])
def stOk(y:Int):Bool:=decide (1<=y/\y<=20000)
def qm3(y:Int):Bool:=decide (y % 4=0/\(y % 100≠0\/y % 400=0))
def qjg(y m:Int):Int:=if m=2 then(if qm3 y=true then 29 else 28) else if m=4\/m=6\/m=9\/m=11 then 30 else 31
def qqk(y m d h i s:Int):Bool:=decide ((1<=y/\y<=9999/\1<=m/\m<=12)/\(1<=d/\d<=qjg y m)/\0<=h/\h<24/\0<=i/\i<60/\0<=s/\s<60)
def qju(y m:Int):Int:=if 1<=y/\y<=9999/\1<=m/\m<=12 then qjg y m else 0
def qe3(y:Int):Int:=(y - 1)*365+(y - 1)/ 4 - (y - 1)/ 100+(y - 1)/ 400
def qek(y m:Int):Int:=if m<=2 then 31*(m - 1) else(153*(m - 3)+2)/ 5+59+(if qm3 y=true then 1 else 0)
def quz(y m d h i s:Int):Int:= -62135596800+(qe3 y+qek y m+(d - 1))*86400+(h*3600+i*60+s)
def q5u(t:Int):Bool:=decide (-9223372036854775808<=t/\t<=9223372036854775807)
def qpu(a b:Int):Int:=if a<48\/57<a\/b<48\/57<b then -100000 else 10*(a - 48)+(b - 48)
def qf4(s:ByteArray):Int:=qpu (bget s 0) (bget s 1)
def qwe:List Int->Int->Int
 | [],n=>n
 | c::r,n=>if c<48\/57<c then -1 else qwe r (n*10+(c - 48))
def qeg(s:ByteArray):Int:=qwe (bytesOf s) 0
def qpv(s:ByteArray):Int×Int:=
 if s.size=15/\bget s 14=90 then
  let y:=qpu (bget s 2) (bget s 3)+100*qpu (bget s 0) (bget s 1);let m:=qpu (bget s 4) (bget s 5);let d:=qpu (bget s 6) (bget s 7);let h:=qpu (bget s 8) (bget s 9);let i:=qpu (bget s 10) (bget s 11);let c:=qpu (bget s 12) (bget s 13)
  if qqk y m d h i c=true then(quz y m d h i c,0) else(0,1)
 else(0,1)
abbrev LI:=List Int
abbrev LC:=List CV
abbrev OO:=Option Out
abbrev KT:=Ex->St->Option Out
def xbi4(x:Int):Bool:=decide (0<=x/\x<=255)
def qad(b:List Int):Bool:=shut (decide (b.length<=1000000)&&b.all xbi4)
def qo3(b:List Int):Bool:=shut (b.all xbi4)
def qc7(b:List Int):Bool:=shut (decide (b.length<=100000000))
def u32Ok(n:Int):Bool:=shut (decide (0<=n/\n<=4294967295))
def qc2(n:Int):Bool:=shut (decide (0<=n/\n<=1000))
def qlg(a b:List Int):Bool:=decide (a=b)
def qbt(a b:List Int):Bool:=shut (qlg a b)
def qbn:List Int->List Int->Int
 | [],[]=>0
 | [],_::_=> -1
 | _::_,[]=>1
 | x::a,y::b=>if x<y then -1 else if y<x then 1 else qbn a b
def qhe(a b:List Int):Int:=shut (qbn a b)
def qew(a b:List Int):Bool:=shut (decide (qbn a b<0))
def qar(b:List Int):Int:=b.foldl (fun n x=>n*256+x) 0
def qhk(b:List Int):Int:=shut (qar b)
def qau(tag:Int):Bool:=decide (tag=48\/tag=49\/(160<=tag/\tag<=190))
def qbm(tag:Int):Bool:=shut (qau tag)
def qbd(tag:Int):Bool:=decide (tag=1\/tag=2\/tag=3\/tag=4\/tag=5\/tag=6\/tag=12\/tag=24)|| (qau tag|| decide (128<=tag/\tag<=158))
def qeb(tag:Int):Bool:=shut (qbd tag)
def qas(n:Int):Int:=if n<128 then 1 else if n<256 then 2 else if n<65536 then 3 else 4
def qcn(n:Int):Int:=shut (qas n)
def qdo:List Int->Bool
 | []=>false
 | [_]=>true
 | x::y::_=> !(decide (x=0/\y<128))&& !(decide (x=255/\128<=y))
def qf9(b:List Int):Bool:=shut (qdo b)
def qqu:List Int->Bool
 | []=>false
 | [x]=>decide (x=0)
 | x::y::r=>decide (x<=7)&&decide ((y::r).getLast (by simp) % 2 ^ x.toNat=0)
def qit(b:List Int):Bool:=shut (qqu b)
def u8At(l:List Int)(k:Nat):Bool:=match l[k]? with|some x=>decide (128<=x/\x<192)|none=>false
def u8Cont(b:List Int)(i:Int):Bool:=shut (u8At b i.toNat)
def qd4:List Int->Int
 | []=>0
 | c::r=>
  if c<128 then 1
  else if 194<=c/\c<=223/\u8At r 0=true then 2
  else if 224<=c/\c<=239/\u8At r 0=true/\u8At r 1=true/\(c=224->160<=r.headD 0)/\(c=237->r.headD 0<160) then 3
  else if 240<=c/\c<=244/\u8At r 0=true/\u8At r 1=true/\u8At r 2=true/\(c=240->144<=r.headD 0)/\(c=244->r.headD 0<144) then 4
  else 0
def u8Rune(b:List Int)(i:Int):Int:=shut (qd4 (b.drop i.toNat))
def qjh:Nat->List Int->Bool
 | 0,_=>true
 | n+1,l=>if l=[] then true else if qd4 l=0 then false else qjh n (l.drop (qd4 l).toNat)
def qc6(l:List Int):Bool:=qjh l.length l
def u8Valid(b:List Int):Bool:=shut (qc6 b)
def xbot(l:List Int):Int:=
 ((l.getD 0 0).toNat||| (l.getD 1 0).toNat*2 ^ 8||| (l.getD 2 0).toNat*2 ^ 16||| (l.getD 3 0).toNat*2 ^ 24||| (l.getD 4 0).toNat*2 ^ 32||| (l.getD 5 0).toNat*2 ^ 40||| (l.getD 6 0).toNat*2 ^ 48||| (l.getD 7 0).toNat*2 ^ 56:Nat)
def u8Word(b:List Int):Int:=shut (xbot b)
def qhp:List Int:=List.replicate 128 240++List.replicate 66 241++List.replicate 30 2++[19]++List.replicate 12 3++[35]++List.replicate 2 3++[52]++List.replicate 3 4++[68]++List.replicate 11 241
def ql5:List CV:=([(128,191),(160,191),(128,159),(144,191),(128,143)]++List.replicate 11 (0,0):List (Int×Int)).map fun p=>.agg [.int .u8 p.1,.int .u8 p.2]
def u8First:List Int:=shut qhp
def u8Accept:List CV:=shut ql5
def qbs:List Int->Bool
 | x::y::r=>decide (r.length<=18)&&(decide (x<2/\y<40)|| decide (x=2/\y<=4294967215))
 | _=>false
def qkp(o:List Int):Bool:=shut (qbs o)
def qb5(n:Int):List Int:=if n<80 then[n/ 40,n % 40] else[2,n - 80]
def qg1(n:Int):List Int:=shut (qb5 n)
def qb9:Int->Int->List Int->Int×Int
 | _,_,[]=>(0,0)
 | n,i,c::r=>if(i=0/\c=128)\/33554431<n then(0,0) else if c<128 then(n*128+c,i+1) else qb9 (n*128+(c - 128)) (i+1) r
def qao(b:List Int):Int×Int:=qb9 0 0 b
def qgc(b:List Int):Int×Int:=shut (qao b)
def qds:Nat->List Int->List (Int×Bool)
 | 0,_=>[]
 | n+1,b=>if b=[] then[] else if(qao b).2=0 then[((qao b).1,false)] else((qao b).1,true)::qds n (b.drop (qao b).2.toNat)
def qc5(b:List Int):List (Int×Bool):=qds b.length b
def qvt(b:List Int):List (Int×Bool):=shut (qc5 b)
def qtj(l:List (Int×Bool)):List (List CV):=shut (l.map fun p=>[.int .u32 p.1,.bool p.2])
def qum:List (Int×Bool)->List Int->Option (List Int)
 | [],o=>some o
 | (n,ok)::r,o=>if ok=false\/20<o.length then none else if o=[] then qum r (qb5 n) else qum r (o++[n])
def qct(b:List Int):List Int×Int:=match qum (qc5 b) [] with
 | some o=>if qbs o=true then(o,0) else([],5)
 | none=>([],5)
def qb6(b:List Int):List Int×Int:=shut (qct b)
def qbi(tag:Int)(b:List Int):Bool:=
 if tag=1 then decide (b=[0]\/b=[255])
 else if tag=2 then qdo b
 else if tag=3 then qqu b
 else if tag=5 then decide (b=[])
 else if tag=6 then decide ((qct b).2=0)
 else if tag=12 then qc6 b
 else if tag=24 then decide ((qpv (xbir b)).2=0)
 else true
def qc3(tag:Int)(b:List Int):Bool:=shut (qbi tag b)
def qac:List Int->Int×Int
 | []=>(0,0)
 | c::t=>if c<128 then(c,1) else if c=128\/131<c\/(t.length:Int)<c - 128 then(0,0)
  else if t.headD 0=0\/qar (t.take (c - 128).toNat)<128 then(0,0) else(qar (t.take (c - 128).toNat),1+(c - 128))
def qg8(b:List Int):Int×Int:=shut (qac b)
def qqf(l:List Int):Bool:=shut (!(decide ((qac l).2=0)))
def qez(l:List Int):Int×List Int:=shut ((qac l).1,l.drop (qac l).2.toNat)
def qkt:List Int->List Int
 | []=>[]
 | c::t=>if c=128\/131<c then t else t.drop (c - 128).toNat
def qhj(l:List Int):List Int:=shut (qkt l)
abbrev Nd:=Int×List Int×List CV
def nd0:Nd:=(0,[],[])
def ndCV(x:Nd):CV:=.agg [.int .i64 x.1,.sli .u8 x.2.1,.slg 3 x.2.2]
def qba:List (List Int)->Bool
 | a::b::r=>decide (qbn a b<=0)&&qba (b::r)
 | _=>true
def rowB(l:List Int):Bool:=decide (l.length<=1000000)&&l.all xbi4
def xb0n:CV->Bool
 | .sli .u8 l=>rowB l
 | _=>false
def qij(l:List CV):Bool:=shut (decide (l.length<=1000000)&&l.all xb0n)
def qbv(l:List CV):Bool:=shut (qba (l.map qcf))
def qd5(l:List CV):List Int:=shut (l.flatMap qcf)
def qcj(f:List Int->Int×Nd×Int):Nat->List Int->Int×List Nd×List (List Int)
 | 0,_=>(0,[],[])
 | m+1,b=>if b=[] then(0,[],[]) else
  if(f b).1=0 then
   let p:=qcj f m (b.drop (f b).2.2.toNat)
   (p.1,(f b).2.1::p.2.1,b.take (f b).2.2.toNat::p.2.2)
  else((f b).1,[],[])
def qat:Nat->List Int->Int×Nd×Int
 | 0,_=>(3,nd0,0)
 | n+1,b=>match b with
  | []=>(1,nd0,0)
  | t::r=>if qbd t=false then(4,nd0,0)
   else if(qac r).2=0\/(r.length:Int) - (qac r).2<(qac r).1 then(1,nd0,0)
   else
    let inside:=(r.drop (qac r).2.toNat).take (qac r).1.toNat;let used:=1+(qac r).2+(qac r).1
    if qau t=false then(if qbi t inside=true then(0,(t,inside,[]),used) else(5,nd0,0))
    else
     let p:=qcj (qat n) inside.length inside
     if p.1=0 then(if t=49/\qba p.2.2=false then(6,nd0,0) else(0,(t,[],p.2.1.map ndCV),used)) else(p.1,nd0,0)
def qex(b:List Int)(d:Int):Nd×Int×Int:=shut (let p:=qat d.toNat b;if p.1=0 then(p.2.1,p.2.2,0) else(nd0,0,p.1))
def qyz(b:List Int):Nd×Int:=let p:=qat 32 b;if p.1=0 then(if p.2.2<b.length then(nd0,7) else(p.2.1,0)) else(nd0,p.1)
def qap(b:List Int):Nd×Int:=shut (qyz b)
def qjs(l:List Int)(d:Int):List Int:=
 if d<=0 then l else match l with
  | []=>[]
  | t::r=>if qbd t=false then r
   else if(qac r).2=0 then qkt r
   else if(r.length:Int) - (qac r).2<(qac r).1 then r.drop (qac r).2.toNat
   else r.drop ((qac r).2+(qac r).1).toNat
def qma(l:List Int)(d:Int):Int×Nd×List Int:=shut ((qat d.toNat l).1,(qat d.toNat l).2.1,qjs l d)
def qbc(tag:Int)(b:List Int)(d:Int):Int×Nd:=shut (
 let p:=qcj (qat (d - 1).toNat) b.length b
 if p.1=0 then(if tag=49/\qba p.2.2=false then(6,nd0) else(0,(tag,[],p.2.1.map ndCV))) else(p.1,nd0))
def isNf:Nat->List CV->Bool
 | 0,_=>false
 | n+1,[.int .i64 _,.sli .u8 b,.slg 3 l]=>decide (b.length<=100000000)&&(decide (l.length<=100000000)&&l.all fun c=>match c with|.agg x=>isNf n x|_=>false)
 | _+1,_=>false
def isN(l:List CV):Bool:=shut (@decide (∃n,isNf n l=true) (Classical.propDecidable _))
def q1g(n:Int):Bool:=shut (decide (0<=n/\n<=100000000))
def qa6:List Int:=shut []
def qcw(tag n:Int):List Int:=tag::(if n<128 then[n] else if n<256 then[129,n] else if n<65536 then[130,n/ 256,n % 256] else[131,n/ 65536,n/ 256 % 256,n % 256])
def qd3(tag n:Int):List Int:=shut (qcw tag n)
def ql8(tag n:Int):Bool:=shut (decide ((0<=tag/\tag<=255)/\0<=n/\n<16777216))
def qpc(l:List CV):Bool:=shut (decide (l.length<=1000000)&&(l.all xb0n&&decide ((l.flatMap qcf).length<=1000000)))
def isTf:Nat->List CV->Bool
 | 0,_=>false
 | n+1,[.int .i64 _,.sli .u8 b,.slg 3 l]=>b.all xbi4&&l.all fun c=>match c with|.agg x=>isTf n x|_=>false
 | _+1,_=>false
def qd6:Nat->List CV->Nat
 | n+1,[.int .i64 _,.sli .u8 b,.slg 3 l]=>1+b.length+(l.map fun c=>qd6 n (cell1 c)).sum
 | _,_=>0
def okF:Nat->Nat->List CV->Bool
 | n+1,d+1,[.int .i64 t,.sli .u8 b,.slg 3 l]=>qbd t&&(if qau t=true then decide (b=[])&&l.all fun c=>okF n d (cell1 c) else decide (l=[])&&qbi t b)
 | _,_,_=>false
def qaj:Nat->List CV->List Int×Bool
 | n+1,[.int .i64 t,.sli .u8 b,.slg 3 l]=>
  if qau t=true then
   let ks:=l.map fun c=>qaj n (cell1 c);let bs:=ks.map (·.1)
   (qcw t bs.flatten.length++bs.flatten,ks.all (·.2)&&(!(decide (t=49))|| qba bs))
  else(qcw t b.length++b,true)
 | _,_=>([],false)
def rkOf(a:List CV):Nat:=@dite _ (∃n,isTf n a=true) (Classical.propDecidable _) (fun h=>Classical.choose h) (fun _=>0)
def q5b(a:List CV)(deep:Int):Int:=shut (if okF (rkOf a) deep.toNat a=true then((qaj (rkOf a) a).1.length:Int) else -1)
def isSr(n:Nat)(a:List CV):Bool:=shut (isTf n a&&(decide (qd6 n a<=30000)))
def isS(a:List CV):Bool:=shut (@decide (∃n,isTf n a=true/\qd6 n a<=30000) (Classical.propDecidable _))
def isWr(n:Nat)(a:List CV):Bool:=shut (@decide (isTf n a=true/\qd6 n a<=30000/\∃d,okF n d a=true) (Classical.propDecidable _))
def isW(a:List CV):Bool:=shut (@decide (∃n,isTf n a=true/\qd6 n a<=30000/\∃d,okF n d a=true) (Classical.propDecidable _))
def qko(a:List CV):List Int×Bool:=shut (if(qaj (rkOf a) a).2=true then((qaj (rkOf a) a).1,true) else([],false))
def qg0(a:List CV)(deep:Int):List Int×Bool:=shut (if okF (rkOf a) deep.toNat a=true/\(qaj (rkOf a) a).2=true then((qaj (rkOf a) a).1,true) else([],false))
def qbf(a:List CV):List Int×Int:=shut (if okF (rkOf a) 32 a=true/\(qaj (rkOf a) a).2=true then((qaj (rkOf a) a).1,0) else([],1))
def qul(a:List CV):Bool:=shut (decide (okF (rkOf a) 32 a=true/\(qaj (rkOf a) a).2=true))
def u32B(n:Int):Bool:=decide (0<=n/\n<=4294967295)
def qu0(o:List Int):Bool:=shut (decide (o.length<=1000)&&o.all u32B)
def u64Ok(n:Int):Bool:=shut (decide (0<=n/\n<=18446744073709551615))
def gHi:Nat->Int->List Int
 | 0,_=>[]
 | f+1,n=>if n=0 then[] else gHi f (n/ 128)++[128+n % 128]
def qav(n:Int):List Int:=gHi 5 (n/ 128)++[n % 128]
def qbq(n:Int):List Int:=shut (qav n)
def qco(o:List Int):List Int:=if qbs o=true then(match o with|x::y::r=>qav (40*x+y)++r.flatMap qav|_=>[]) else[]
def qax(o:List Int):List Int:=shut (qco o)
def qcg:List CV:=shut []
def num8(b:List Int):Bool:=shut (decide (b.length<=8)&&b.all xbi4)
def vLeC(n:Int):List Int:=[n % 256,n/ 256 % 256,n/ 65536 % 256,n/ 16777216 % 256,n/ 4294967296 % 256,n/ 1099511627776 % 256,n/ 281474976710656 % 256,n/ 72057594037927936 % 256]
def vLe(n:Int):List Int:=shut (vLeC n)
def vBe(n:Int):List Int:=shut (vLeC n).reverse
def vRev(l:List Int):List Int:=shut l.reverse
def xb0m(l:List Int):Bool:=shut (decide (l.length=8))
def q50:List Int->List Int
 | a::b::r=>if(a=0/\b<128)\/(a=255/\128<=b) then q50 (b::r) else a::b::r
 | l=>l
def xb2u(n:Int):List Int:=q50 (vLeC (n % 18446744073709551616)).reverse
def vInt(n:Int):List Int:=shut (xb2u n)
def xbis(b:List Int):Int:=if 128<=b.headD 0 then qar b - 256 ^ b.length else qar b
def qpw(b:List Int):Int×Int:=if 8<b.length then(0,8) else(xbis b,0)
def qqm(b:List Int):Int×Int:=shut (qpw b)
def qm7(g t:Int)(b:List Int)(k:List CV):Int:=if t≠g then 4 else if k.length≠0\/qbi g b=false then 5 else 0
def quh(g t:Int)(b:List Int)(k:List CV):List Int×Int:=shut (if qm7 g t b k=0 then(b,0) else([],qm7 g t b k))
def qb7(t:Int)(b:List Int)(k:List CV):Int×Int:=shut (if qm7 2 t b k=0 then qpw b else(0,qm7 2 t b k))
def qe7(t:Int)(b:List Int)(k:List CV):List Int×Int:=shut (if qm7 6 t b k=0 then qb6 b else([],qm7 6 t b k))
def qa0(t:Int)(b:List Int)(k:List CV):List Int×Int:=shut (if qm7 4 t b k=0 then(b,0) else([],qm7 4 t b k))
def xbl7(g:Int)(b:List Int):Int×List Int×Int:=if qbi g b=true then(g,b,0) else(0,[],5)
def qge(g:Int)(b:List Int):Int×List Int×Int:=shut (xbl7 g b)
def qs8(g:Int)(b:List Int):Bool:=shut (decide ((g=12\/g=6\/g=24)/\b.length<=2000)&&b.all xbi4)
def idOk(o:List Int):Bool:=shut (decide (o.length<=50)&&o.all u32B)
def xb6p(g:Int)(l:List CV):Int×List CV×Int:=if 0<=g/\g<=30 then(160+g,l,0) else(0,[],8)
def vBox(g:Int)(l:List CV):Int×List CV×Int:=shut (xb6p g l)
def q52(g t:Int)(b:List Int)(k:List CV):List CV×Int:=if t≠g\/qau g=false then([],4) else if b.length≠0 then([],5) else(k,0)
def qbz(g t:Int)(b:List Int)(k:List CV):List CV×Int:=shut (q52 g t b k)
def qbr(l:List CV):Bool:=shut (decide (l.length<=100000000))
def xbcw:CV:=.agga 11 6 [.agg [.int .i64 1,.int .i64 3,.int .i64 1,.int .i64 0,.int .i64 1,.int .i64 1],.agg [.int .i64 4,.int .i64 2,.int .i64 1,.int .i64 0,.int .i64 8,.int .i64 2],.agg [.int .i64 6,.int .i64 2,.int .i64 1,.int .i64 0,.int .i64 11,.int .i64 1],.agg [.int .i64 11,.int .i64 3,.int .i64 2,.int .i64 1,.int .i64 17,.int .i64 1],.agg [.int .i64 33,.int .i64 2,.int .i64 2,.int .i64 5,.int .i64 1,.int .i64 1],.agg [.int .i64 41,.int .i64 1,.int .i64 2,.int .i64 4,.int .i64 17,.int .i64 1],.agg [.int .i64 51,.int .i64 3,.int .i64 3,.int .i64 2,.int .i64 1,.int .i64 1],.agg [.int .i64 61,.int .i64 3,.int .i64 4,.int .i64 4,.int .i64 28,.int .i64 1],.agg [.int .i64 71,.int .i64 3,.int .i64 5,.int .i64 3,.int .i64 5,.int .i64 20],.agg [.int .i64 81,.int .i64 3,.int .i64 6,.int .i64 3,.int .i64 2,.int .i64 20],.agg [.int .i64 91,.int .i64 3,.int .i64 7,.int .i64 3,.int .i64 6,.int .i64 20]]
def qci:List (Int×Int×List Int):=[(1,1,[2,16,840,1,101,3,4,2,1]),
 (2,1,[2,16,840,1,101,3,4,2,2]),
 (3,1,[2,16,840,1,101,3,4,2,3]),
 (4,1,[2,16,840,1,101,3,4,2,8]),
 (5,1,[2,16,840,1,101,3,4,2,10]),
 (6,1,[2,16,840,1,101,3,4,2,11]),
 (7,1,[2,16,840,1,101,3,4,2,12]),
 (11,2,[2,16,840,1,101,3,4,3,17]),
 (12,2,[2,16,840,1,101,3,4,3,18]),
 (13,2,[2,16,840,1,101,3,4,3,19]),
 (33,2,[2,999,1]),
 (34,2,[2,999,2]),
 (41,2,[1,2,840,113549,1,9,16,3,17]),
 (51,3,[2,16,840,1,101,3,4,4,1]),
 (52,3,[2,16,840,1,101,3,4,4,2]),
 (53,3,[2,16,840,1,101,3,4,4,3]),
 (61,4,[1,2,840,113549,1,9,16,3,28]),
 (62,4,[1,2,840,113549,1,9,16,3,29]),
 (63,4,[1,2,840,113549,1,9,16,3,30]),
 (71,5,[2,16,840,1,101,3,4,1,5]),
 (72,5,[2,16,840,1,101,3,4,1,25]),
 (73,5,[2,16,840,1,101,3,4,1,45]),
 (81,6,[2,16,840,1,101,3,4,1,2]),
 (82,6,[2,16,840,1,101,3,4,1,22]),
 (83,6,[2,16,840,1,101,3,4,1,42]),
 (91,7,[2,16,840,1,101,3,4,1,6]),
 (92,7,[2,16,840,1,101,3,4,1,26]),
 (93,7,[2,16,840,1,101,3,4,1,46]),
 (21,2,[2,16,840,1,101,3,4,3,20]),
 (22,2,[2,16,840,1,101,3,4,3,26]),
 (23,2,[2,16,840,1,101,3,4,3,21]),
 (24,2,[2,16,840,1,101,3,4,3,27]),
 (25,2,[2,16,840,1,101,3,4,3,22]),
 (26,2,[2,16,840,1,101,3,4,3,28]),
 (27,2,[2,16,840,1,101,3,4,3,23]),
 (28,2,[2,16,840,1,101,3,4,3,29]),
 (29,2,[2,16,840,1,101,3,4,3,24]),
 (30,2,[2,16,840,1,101,3,4,3,30]),
 (31,2,[2,16,840,1,101,3,4,3,25]),
 (32,2,[2,16,840,1,101,3,4,3,31])]
def qpz:List (List CV):=shut (qci.map fun e=>[.agg [.int .i64 e.1,.int .i64 e.2.1,.sli .u32 e.2.2]])
def qaf(g:Int):Int×Int×List Int:=(qci.find? fun e=>decide (e.1=g)).getD (0,0,[])
def qay(g:Int):Int×Int×List Int:=shut (qaf g)
def q9e(o:List Int):Int:=((qci.find? fun e=>decide (e.2.2=o)).getD (0,0,[])).1
def qfz(o:List Int):Int:=shut (q9e o)
def qjl(g h:Int):List Int:=shut [2,16,840,1,101,3,4,g,h]
def qu3(o:List Int):List Int:=shut ([1,2,840,113549,1]++o)
def qb1(g:Int):Int:=if g=6 then 16 else if g=7 then 12 else 0
def qjn(g:Int):Int:=shut (qb1 g)
def qbg(t:Int)(b:List Int)(k:List CV):CV:=.agg [.int .i64 t,.sli .u8 b,.slg 3 k]
def qel(o:List Int):CV:=qbg (qge 6 (qax o)).1 (qge 6 (qax o)).2.1 []
def qf1(g:Int)(b:List Int):Int×List CV×Int:=
 if(qaf g).2.1=0 then(0,[],9) else if(b.length:Int)≠qb1 (qaf g).2.1 then(0,[],14)
 else(48,qel (qaf g).2.2::(if(qaf g).2.1=6 then[qbg 4 b []] else if(qaf g).2.1=7 then[qbg 48 [] [qbg 4 b [],qbg 2 (vInt 16) []]] else[]),0)
def qbo(g:Int)(b:List Int):Int×List CV×Int:=shut (qf1 g b)
abbrev nT(c:CV):Int:=qfp ((cell1 c).headD .nili)
abbrev nB(c:CV):List Int:=qcf ((cell1 c).tail.headD .nili)
abbrev nK(c:CV):List CV:=qbl ((cell1 c).tail.tail.headD .nili)
def algB(g:Int)(x:CV):List Int×Bool:=((qa0 (nT x) (nB x) (nK x)).1,decide ((qa0 (nT x) (nB x) (nK x)).2=0)&&decide (((qa0 (nT x) (nB x) (nK x)).1.length:Int)=qb1 g))
def xb3l(g:Int)(q p:CV):List Int×Bool:=if ¬(qb7 (nT q) (nB q) (nK q)).2=0 then([],false) else if ¬(qb7 (nT q) (nB q) (nK q)).1=16 then([],false) else algB g p
def algG(g:Int)(two:List CV):List Int×Bool:=if ¬(two.length:Int)=2 then([],false) else xb3l g (two.getD 1 .nili) (two.headD .nili)
def algH(g:Int)(x:CV):List Int×Bool:=if g=7 then(if ¬(qbz 48 (nT x) (nB x) (nK x)).2=0 then([],false) else algG g (qbz 48 (nT x) (nB x) (nK x)).1) else algB g x
def qo0(g:Int)(l:List CV):List Int×Bool:=
 if qb1 g=0 then([],decide ((l.length:Int)=0)) else if ¬(l.length:Int)=1 then([],false) else algH g (l.headD .nili)
def qcu(g:Int)(l:List CV):List Int×Bool:=shut (qo0 g l)
def q5y(l:List CV):Bool:=shut (@decide (∀c∈l, ∃t b k,c=.agg [.int .i64 t,.sli .u8 b,.slg 3 k]/\isS [.int .i64 t,.sli .u8 b,.slg 3 k]=true) (Classical.propDecidable _))
def xbvu(v:List Int×Int)(r:List CV):Int×List Int×Int:=if ¬v.2=0 then(0,[],1) else if qfz v.1=0 then(0,[],9) else if(qcu (qay (qfz v.1)).2.1 r).2=false then(0,[],1) else(qfz v.1,(qcu (qay (qfz v.1)).2.1 r).1,0)
def algR(ks:List CV):Int×List Int×Int:=if(ks.length:Int)=0 then(0,[],1) else xbvu (qe7 (nT (ks.headD .nili)) (nB (ks.headD .nili)) (nK (ks.headD .nili))) (ks.drop 1)
def qr3(t:Int)(b:List Int)(k:List CV):Int×List Int×Int:=if ¬(qbz 48 t b k).2=0 then(0,[],1) else algR (qbz 48 t b k).1
def qby(t:Int)(b:List Int)(k:List CV):Int×List Int×Int:=shut (qr3 t b k)
def qn0:List (List Int):=[[0,0],[32,64],[48,128],[64,128],[32,136],[64,72],[32,168],[64,136]]
def qyt:CV:=.agga 8 2 (shut (qn0.map fun l=>.aggi 2 .i64 l))
def qa4(k:Int):Int:=if 0<=k/\k<8 then[0,32,48,64,32,64,32,64].getD k.toNat 0 else 0
def qqb(k:Int):Int:=shut (qa4 k)
abbrev mD(c:CV):Int:=qfp ((cell1 c).headD .nili)
abbrev mT(c:CV):List CV:=qbl ((cell1 c).tail.headD .nili)
abbrev mW(c:CV):List Int:=qcf ((cell1 c).tail.tail.headD .nili)
def qz7(d:Int)(t:List CV)(w:List Int):CV:=.agg [.int .i64 d,.slg 1 t,.sli .u8 w]
def b6k(b:List Int):Bool:=shut (decide (b.length<=6000))
def xbbg(l:List CV):Prop:=l.length<=1000000/\∀c∈l, ∃b,c=.sli .u8 b/\qad b=true
def xbbh(t:List CV):Prop:=t.length<=1000000/\∀c∈t, ∃l,c=.slg 1 l/\xbbg l
def isMk(c:CV):Prop:= ∃d t w,c=qz7 d t w/\xbbh t/\qad w=true
def qn4(l:List CV):Prop:=l.length<=10000/\∀c∈l,isMk c
def qeq(l:List CV):Prop:=l.length<=10000/\∀c∈l, ∃m,c=.slg 3 m/\qn4 m
def qux(l:List CV):Bool:=shut (@decide (xbbg l) (Classical.propDecidable _))
def quc(l:List CV):Bool:=shut (@decide (xbbh l) (Classical.propDecidable _))
def qpi(l:List CV):Bool:=shut (@decide (qn4 l) (Classical.propDecidable _))
def qb0(l:List CV):Bool:=shut (@decide (qeq l) (Classical.propDecidable _))
def qfx(l:List CV):Bool:=shut (@decide (l.length<=1000000/\∀c∈l, ∃t b k,c=.agg [.int .i64 t,.sli .u8 b,.slg 3 k]/\isS [.int .i64 t,.sli .u8 b,.slg 3 k]=true) (Classical.propDecidable _))
def q5j(l:List CV):Nat:=(l.map fun c=>1+(qcf c).length).sum
def qub(l:List CV):Nat:=(l.map fun c=>1+q5j (qbl c)).sum
def qgy(l:List CV):Nat:=(l.map fun c=>2+(mW c).length+qub (mT c)).sum
def qhx(l:List CV):Nat:=(l.map fun c=>1+qgy (qbl c)).sum
def recO(l:List CV):Bool:=shut (@decide (qeq l/\qhx l<=12100) (Classical.propDecidable _))
def evB{α β:Type}(f:α->Option β)(lo hi:Int)(l:List α):Bool:=decide (lo<=(l.length:Int)/\(l.length:Int)<=hi)&&l.all fun c=>(f c).isSome
def evL{α β:Type}(f:α->Option β)(lo hi:Int)(l:List α):List β:=if evB f lo hi l=true then l.filterMap f else[]
def digF(s:Int)(c:CV):Option CV:=if((qcf c).length:Int)=s then some (qbg 4 (qcf c) []) else none
def dgB(s lo hi:Int)(l:List CV):Bool:=shut (evB (digF s) lo hi l)
def dgL(s lo hi:Int)(l:List CV):List CV:=shut (evL (digF s) lo hi l)
def qjr(s:Int)(c:CV):Option CV:=if evB (digF s) 1 64 (qbl c)=true then some (qbg 48 [] (evL (digF s) 1 64 (qbl c))) else none
def xb0a(s lo hi:Int)(l:List CV):Bool:=shut (evB (qjr s) lo hi l)
def xb0b(s lo hi:Int)(l:List CV):List CV:=shut (evL (qjr s) lo hi l)
def ql9(d:Int)(t:List CV)(w:List Int):List CV:=
 qbg 160 [] [qel (qaf d).2.2]::((if t=[] then[] else[qbg 162 [] (evL (qjr (qa4 d)) 0 20 t)])++[ndCV (qap w).1])
def qc8(d:Int)(t:List CV)(w:List Int):Bool:=decide ((qaf d).2.1=1)&&(decide ((qap w).2=0)&&evB (qjr (qa4 d)) 0 20 t)
def q1p(d:Int)(t:List CV)(w:List Int):Bool:=shut (qc8 d t w)
def q7m(d:Int)(t:List CV)(w:List Int):Int×List CV:=shut (if qc8 d t w=true then(48,ql9 d t w) else(0,[]))
def q49(d:Int)(t:List CV)(w:List Int):Int×List CV:=shut (if decide ((qaf d).2.1=1)&&evB (qjr (qa4 d)) 0 20 t then(48,ql9 d t w) else(0,[]))
def qjw(c:CV):Option CV:=if qc8 (mD c) (mT c) (mW c)=true then some (qbg 48 [] (ql9 (mD c) (mT c) (mW c))) else none
def qs9(lo hi:Int)(l:List CV):Bool:=shut (evB qjw lo hi l)
def qta(lo hi:Int)(l:List CV):List CV:=shut (evL qjw lo hi l)
def qdu(c:CV):Option CV:=if evB qjw 1 20 (qbl c)=true then some (qbg 48 [] (evL qjw 1 20 (qbl c))) else none
def qnd(lo hi:Int)(l:List CV):Bool:=shut (evB qdu lo hi l)
def qsb(lo hi:Int)(l:List CV):List CV:=shut (evL qdu lo hi l)
def qoe(l:List CV):Int×List CV:=shut (if evB qdu 1 10 l=true then(48,evL qdu 1 10 l) else(0,[]))
def qf6(out:List Int)(d:Int):List Int:=if d∈out then out else out++[d]
def q1o(l:List CV):List Int:=l.map mD
def qb4(l:List CV):List Int:=(l.flatMap fun c=>q1o (qbl c)).foldl qf6 []
def qmm(l:List CV):List Int:=shut (qb4 l)
def xbva(l:List CV):List CV:=shut (l.flatMap qbl)
def hasI(l:List Int)(d:Int):Bool:=shut (decide (d∈l))
def idxI(l:List Int)(d:Int):Int:=shut (if d∈l then(l.idxOf d:Int) else -1)
def xblv(a b:List Int):Bool:=shut (decide (a=b))
def qh1(l:List Int):Bool:=shut (decide (l.length<=1000000000000000))
def qr0(d:Int):CV:=qbg (qf1 d []).1 [] (qf1 d []).2.1
def quy(l:List Int):Bool:=shut (decide (l.length<=1000000))
def q6b(d:Int):Option CV:=if(qf1 d []).2.2=0 then some (qr0 d) else none
def xbqd(lo hi:Int)(l:List Int):Bool:=shut (evB q6b lo hi l)
def xbmh(lo hi:Int)(l:List Int):List CV:=shut (evL q6b lo hi l)
def qj8(g:List Int)(c:List CV):List CV:=[qbg 2 (vInt 1) [],qbg 48 [] (g.map qr0),qbg 48 [] (evL qdu 1 10 c)]
def q1c(g:List Int)(c:List CV):Bool:=evB qdu 1 10 c&&decide (g=qb4 c)
def qu9(g:List Int)(c:List CV):Bool:=q1c g c&&qul [.int .i64 48,.sli .u8 [],.slg 3 (qj8 g c)]
def evOk(g:List Int)(c:List CV):Bool:=shut (qu9 g c)
def qga(g:List Int)(c:List CV):Int×List CV:=shut (if q1c g c=true then(48,qj8 g c) else(0,[]))
def qcx(g:List Int)(c:List CV):List Int×Int:=if qu9 g c=true then qbf [.int .i64 48,.sli .u8 [],.slg 3 (qj8 g c)] else([],1)
def qg9(g:List Int)(c:List CV):List Int×Int:=shut (qcx g c)
def qon(c:CV):Option CV:=if(qa0 (nT c) (nB c) (nK c)).2=0 then some (.sli .u8 (qa0 (nT c) (nB c) (nK c)).1) else none
def qen{β:Type}(f:CV->Option β)(g t:Int)(b:List Int)(k:List CV):Bool:=decide ((qbz g t b k).2=0)&&(qbz g t b k).1.all fun c=>(f c).isSome
def qcl{β:Type}(f:CV->Option β)(g t:Int)(b:List Int)(k:List CV):List β:=if qen f g t b k=true then(qbz g t b k).1.filterMap f else[]
def q03(lo hi:Int)(l:List CV):Bool:=shut (evB qon lo hi l)
def q05(lo hi:Int)(l:List CV):List CV:=shut (evL qon lo hi l)
def ldB(g t:Int)(b:List Int)(k:List CV):Bool:=shut (qen qon g t b k)
def ldL(g t:Int)(b:List Int)(k:List CV):List CV:=shut (qcl qon g t b k)
def qc1(c:CV):Option CV:=if qen qon 48 (nT c) (nB c) (nK c)=true then some (.slg 1 (qcl qon 48 (nT c) (nB c) (nK c))) else none
def qtk(lo hi:Int)(l:List CV):Bool:=shut (evB qc1 lo hi l)
def qtl(lo hi:Int)(l:List CV):List CV:=shut (evL qc1 lo hi l)
def lpB(g t:Int)(b:List Int)(k:List CV):Bool:=shut (qen qc1 g t b k)
def lpL(g t:Int)(b:List Int)(k:List CV):List CV:=shut (qcl qc1 g t b k)
def qus(t:Int)(b:List Int)(k:List CV):Int×Bool:=
 if(qbz 160 t b k).2≠0\/((qbz 160 t b k).1.length:Int)≠1 then(0,false) else
  let c:=(qbz 160 t b k).1.headD .nili
  (qfz (qe7 (nT c) (nB c) (nK c)).1,decide ((qe7 (nT c) (nB c) (nK c)).2=0))
def qsv(t:Int)(b:List Int)(k:List CV):Int×Bool:=shut (qus t b k)
def qyf(c:CV):Int×Bool:=qus (nT c) (nB c) (nK c)
def qm6(c:CV):List Int×Int:=qbf [.int .i64 (nT c),.sli .u8 (nB c),.slg 3 (nK c)]
def qn2(ks:List CV):Int×List CV×List Int×Bool:=
 if(ks.length:Int)<2\/3<(ks.length:Int) then(0,[],[],false) else
  let x:=ks.headD .nili;let y:=ks.getD 1 .nili;let z:=ks.getD (ks.length - 1) .nili
  if(ks.length:Int)=3 then((qyf x).1,qcl qc1 162 (nT y) (nB y) (nK y),(qm6 z).1,(qen qc1 162 (nT y) (nB y) (nK y)&&decide (0<((qcl qc1 162 (nT y) (nB y) (nK y)).length:Int)))&&((qyf x).2&&decide ((qm6 z).2=0)))
  else((qyf x).1,[],(qm6 z).1,(qyf x).2&&decide ((qm6 z).2=0))
def qc4(t:Int)(b:List Int)(k:List CV):Int×List CV×List Int×Bool:=if(qbz 48 t b k).2≠0 then(0,[],[],false) else qn2 (qbz 48 t b k).1
def qn1(t:Int)(b:List Int)(k:List CV):Int×List CV×List Int×Bool:=shut (qc4 t b k)
def qoo(c:CV):Option CV:=if(qc4 (nT c) (nB c) (nK c)).2.2.2=true then some (qz7 (qc4 (nT c) (nB c) (nK c)).1 (qc4 (nT c) (nB c) (nK c)).2.1 (qc4 (nT c) (nB c) (nK c)).2.2.1) else none
def qtb(lo hi:Int)(l:List CV):Bool:=shut (evB qoo lo hi l)
def qtc(lo hi:Int)(l:List CV):List CV:=shut (evL qoo lo hi l)
def lmB(g t:Int)(b:List Int)(k:List CV):Bool:=shut (qen qoo g t b k)
def lmL(g t:Int)(b:List Int)(k:List CV):List CV:=shut (qcl qoo g t b k)
def qdi(c:CV):Option CV:=if qen qoo 48 (nT c) (nB c) (nK c)=true then some (.slg 3 (qcl qoo 48 (nT c) (nB c) (nK c))) else none
def qnf(lo hi:Int)(l:List CV):Bool:=shut (evB qdi lo hi l)
def qng(lo hi:Int)(l:List CV):List CV:=shut (evL qdi lo hi l)
def lcB(g t:Int)(b:List Int)(k:List CV):Bool:=shut (qen qdi g t b k)
def lcL(g t:Int)(b:List Int)(k:List CV):List CV:=shut (qcl qdi g t b k)
def algV(c:CV):Option Int:=if(qby (nT c) (nB c) (nK c)).2.2=0 then some (qby (nT c) (nB c) (nK c)).1 else none
def q0t(lo hi:Int)(l:List CV):Bool:=shut (evB algV lo hi l)
def q0v(lo hi:Int)(l:List CV):List Int:=shut (evL algV lo hi l)
def laB(g t:Int)(b:List Int)(k:List CV):Bool:=shut (qen algV g t b k)
def laL(g t:Int)(b:List Int)(k:List CV):List Int:=shut (qcl algV g t b k)
def qp6(ks:List CV):List Int×List CV×Bool:=
 if(ks.length:Int)≠3 then([],[],false) else
  let x:=ks.headD .nili;let y:=ks.getD 1 .nili;let z:=ks.getD 2 .nili
  (qcl algV 48 (nT y) (nB y) (nK y),qcl qdi 48 (nT z) (nB z) (nK z),(decide ((qb7 (nT x) (nB x) (nK x)).2=0)&&decide ((qb7 (nT x) (nB x) (nK x)).1=1))&&(qen algV 48 (nT y) (nB y) (nK y)&&qen qdi 48 (nT z) (nB z) (nK z)))
def qdd(b:List Int):List Int×List CV×Int:=
 if(qap b).2≠0 then([],[],(qap b).2) else
  let n:=(qap b).1;let e:=qp6 (qbz 48 n.1 n.2.1 n.2.2).1
  if(qbz 48 n.1 n.2.1 n.2.2).2=0/\e.2.2=true/\qu9 e.1 e.2.1=true then(e.1,e.2.1,0) else([],[],1)
def qjp(b:List Int):List Int×List CV×Int:=shut (qdd b)
def pD(p:Prop):Bool:=@decide p (Classical.propDecidable _)
def qps(a b:List CV):Bool:=shut (pD (a=b))
def qm2(a b:List CV):Bool:=shut (pD (a=b))
def xbdm(g:List Int)(c:List CV)(g':List Int)(c':List CV):Bool:=shut (pD (g=g'/\c=c'))
def q5a(n:CV):Int:=qfz (qe7 (nT ((nK ((nK n).headD .nili)).headD .nili)) (nB ((nK ((nK n).headD .nili)).headD .nili)) (nK ((nK ((nK n).headD .nili)).headD .nili))).1
def qn6(n:CV):List CV:=if 2<(nK n).length then(nK ((nK n).getD 1 .nili)).map fun p=>.slg 1 ((nK p).map fun d=>.sli .u8 (nB d)) else[]
def mkdC(n:CV):Int×List CV×List Int:=if(nK n).length<2\/(nK ((nK n).headD .nili)).length≠1 then(0,[],[]) else(q5a n,qn6 n,(qm6 ((nK n).getD ((nK n).length - 1) .nili)).1)
def mkd(t:Int)(b:List Int)(k:List CV):Int×List CV×List Int:=shut (mkdC (qbg t b k))
def mkdV(n:CV):CV:=qz7 (mkdC n).1 (mkdC n).2.1 (mkdC n).2.2
def qbu(k:List CV):List CV:=if k.length=3 then(nK (k.getD 2 .nili)).map fun c=>.slg 3 ((nK c).map mkdV) else[]
def qof(b:List Int):List Int×List CV×Int:=
 if(qap b).2≠0 then([],[],(qap b).2) else
  let c:=qbu (qap b).1.2.2;let g:=qb4 c
  if(qcx g c).2=0/\b=(qcx g c).1 then(g,c,0) else([],[],1)
def qtr(b:List Int):List Int×List CV×Int:=shut (qof b)
def qa8:Nat->Option CV:=fun g=>cond (Nat.beq g 0) (some (.aggi 256 .u8 u8First)) (cond (Nat.beq g 1) (some (.agga 16 2 u8Accept)) (cond (Nat.beq g 2) (some (xbcw)) (cond (Nat.beq g 3) (some (qyt)) (none))))
def QONums:List V->List Obj->Option (List (List CV)):=fun xs obs=>match xs,obs with
 | [.ptr 0 0 0],[⟨.var [.cl (.sli .u8 b)],false⟩]=>some (qtj (qvt b))
 | _,_=>none
def xbgg:List V->List Obj->Bool:=fun xs obs=>match xs,obs with
 | [.ptr 0 0 0],[⟨.var [.cl (.sli .u8 b)],false⟩]=>qad b
 | _,_=>false
def q1v:List CV->Bool:=fun x=>match x with
 | [.int .u32 _,.bool _]=>true
 | _=>false
theorem xbf5{x:List CV}(h:q1v x=true): ∃e1 e2,x=[.int .u32 e1,.bool e2]:=by
 unfold q1v at h;split at h
 ·exact⟨_,_,rfl⟩
 ·cases h
def q9d:List V->List Obj->Option (List (List CV)):=fun xs obs=>match xs,obs with
 | [],[]=>some (qpz)
 | _,_=>none
def q5f:List V->List Obj->Bool:=fun xs obs=>match xs,obs with
 | [],[]=>true
 | _,_=>false
def qn9:List CV->Bool:=fun x=>match x with
 | [.agg [.int .i64 _,.int .i64 _,.sli .u32 _]]=>true
 | _=>false
theorem q1u{x:List CV}(h:qn9 x=true): ∃e1 e2 e3,x=[.agg [.int .i64 e1,.int .i64 e2,.sli .u32 e3]]:=by
 unfold qn9 at h;split at h
 ·exact⟨_,_,_,rfl⟩
 ·cases h
def DDCatch:DSpec:=fun m xs obs=>match m,xs,obs with
 | none,[.ptr 0 0 0,.ptr 1 0 0],[⟨.var [.cl (.int .i64 t),.cl (.sli .u8 bb),.cl (.slg 3 kk)],false⟩,⟨.var [.cl (.int .i64 e)],false⟩]=>zR [] [some ⟨.var [.cl (.int .i64 t),.cl (.sli .u8 bb),.cl (.slg 3 kk)],false⟩,some ⟨.var [.cl (.int .i64 e)],false⟩]
 | some (.iface 85 (.agg [.int .i64 why])),[.ptr 0 0 0,.ptr 1 0 0],[⟨.var [.cl (.int .i64 t),.cl (.sli .u8 bb),.cl (.slg 3 kk)],false⟩,⟨.var [.cl (.int .i64 e)],false⟩]=>zR [] [some ⟨.var [.cl (.int .i64 0),.nils,.nils],false⟩,some ⟨.var [.cl (.int .i64 why)],false⟩]
 | some (.iface 85 (.agg [.int .i64 why])),[.ptr 0 0 0,.ptr 1 0 0],[⟨.var [.cl (.int .i64 t),.nils,.nils],false⟩,⟨.var [.cl (.int .i64 e)],false⟩]=>zR [] [some ⟨.var [.cl (.int .i64 0),.nils,.nils],false⟩,some ⟨.var [.cl (.int .i64 why)],false⟩]
 | _,_,_=>none
def qtn:Option CV->List V->List Obj->Bool:=fun m xs obs=>match m,xs,obs with
 | none,[.ptr 0 0 0,.ptr 1 0 0],[⟨.var [.cl (.int .i64 t),.cl (.sli .u8 bb),.cl (.slg 3 kk)],false⟩,⟨.var [.cl (.int .i64 e)],false⟩]=>true
 | some (.iface 85 (.agg [.int .i64 why])),[.ptr 0 0 0,.ptr 1 0 0],[⟨.var [.cl (.int .i64 t),.cl (.sli .u8 bb),.cl (.slg 3 kk)],false⟩,⟨.var [.cl (.int .i64 e)],false⟩]=>true
 | some (.iface 85 (.agg [.int .i64 why])),[.ptr 0 0 0,.ptr 1 0 0],[⟨.var [.cl (.int .i64 t),.nils,.nils],false⟩,⟨.var [.cl (.int .i64 e)],false⟩]=>true
 | _,_,_=>false
def KDigits:Ct:=fun
 | [.cl (.str s)],[]=>some (decide (2<=s.size),.leaf (.ret [.cl (.int .i64 (qf4 s))] []))
 | _,_=>none
def BDigits:Nat->Ct:=t0
def KDLeap:Ct:=fun
 | [.cl (.aggi 6 .i64 [d0,d1,d2,d3,d4,d5])],[]=>some (stOk d0,.leaf (.ret [.cl (.bool (qm3 d0))] []))
 | _,_=>none
def BDLeap:Nat->Ct:=tb 172 KDigits BDigits
def KDDays:Ct:=fun
 | [.cl (.aggi 6 .i64 [d0,d1,d2,d3,d4,d5])],[]=>some (stOk d0,.leaf (.ret [.cl (.int .i64 (qjg d0 d1))] []))
 | _,_=>none
def BDDays:Nat->Ct:=tb 195 KDLeap BDLeap
def KDFit:Ct:=fun
 | [.cl (.aggi 6 .i64 [d0,d1,d2,d3,d4,d5])],[]=>some (true,.leaf (.ret [.cl (.bool (qqk d0 d1 d2 d3 d4 d5))] []))
 | _,_=>none
def BDFit:Nat->Ct:=tb 191 KDDays BDDays
def KDSecs:Ct:=fun
 | [.cl (.aggi 6 .i64 [d0,d1,d2,d3,d4,d5])],[]=>some (qqk d0 d1 d2 d3 d4 d5,.leaf (.ret [.cl (.int .i64 (quz d0 d1 d2 d3 d4 d5))] []))
 | _,_=>none
def BDSecs:Nat->Ct:=tb 173 KDFit BDFit
def KSRead:Ct:=fun
 | [.cl (.str s)],[]=>some (true,.leaf (.ret [.cl (.int .i64 ((qpv s).1)),.cl (.int .i64 ((qpv s).2))] []))
 | _,_=>none
def BSRead:Nat->Ct:=tb 174 KDSecs BDSecs
def KRLeap:Ct:=fun
 | [.cl (.int .i64 y)],[]=>some (stOk y,.leaf (.ret [.cl (.bool (qm3 y))] []))
 | _,_=>none
def BRLeap:Nat->Ct:=tb 136 KSRead BSRead
def KRDays:Ct:=fun
 | [.cl (.int .i64 y),.cl (.int .i64 m)],[]=>some (true,.leaf (.ret [.cl (.int .i64 (qju y m))] []))
 | _,_=>none
def BRDays:Nat->Ct:=tb 193 KRLeap BRLeap
def KRYears:Ct:=fun
 | [.cl (.int .i64 y)],[]=>some (stOk y,.leaf (.ret [.cl (.int .i64 (qe3 y))] []))
 | _,_=>none
def BRYears:Nat->Ct:=tb 181 KRDays BRDays
def KRNumber:Ct:=fun
 | [.cl (.str s)],[]=>some (decide (s.size<=18),.leaf (.ret [.cl (.int .i64 (qeg s))] []))
 | _,_=>none
def BRNumber:Nat->Ct:=tb 182 KRYears BRYears
def KRRead:Ct:=fun
 | [.cl (.str s)],[]=>some (true,.leaf (.ret [.cl (.int .i64 ((qpv s).1)),.cl (.int .i64 ((qpv s).2))] []))
 | _,_=>none
def BRRead:Nat->Ct:=tb 180 KRNumber BRNumber
def KDBoxed:Ct:=fun
 | [.cl (.int .i64 tag)],[]=>some (true,.leaf (.ret [.cl (.bool (qbm tag))] []))
 | _,_=>none
def BDBoxed:Nat->Ct:=tb 148 KRRead BRRead
def KRBoxed:Ct:=fun
 | [.cl (.int .i64 tag)],[]=>some (true,.leaf (.ret [.cl (.bool (qbm tag))] []))
 | _,_=>none
def BRBoxed:Nat->Ct:=tb 50 KDBoxed BDBoxed
def KDKnown:Ct:=fun
 | [.cl (.int .i64 tag)],[]=>some (true,.leaf (.ret [.cl (.bool (qeb tag))] []))
 | _,_=>none
def BDKnown:Nat->Ct:=tb 103 KRBoxed BRBoxed
def KRTagged:Ct:=fun
 | [.cl (.int .i64 tag)],[]=>some (true,.leaf (.ret [.cl (.bool (qeb tag))] []))
 | _,_=>none
def BRTagged:Nat->Ct:=tb 87 KDKnown BDKnown
def qm8:Ct:=fun
 | [.cl (.int .i64 n)],[]=>some (true,.leaf (.ret [.cl (.int .i64 (qcn n))] []))
 | _,_=>none
def qwj:Nat->Ct:=tb 101 KRTagged BRTagged
def KDNumber:Ct:=fun
 | [.cl (.sli .u8 b)],[]=>some (qad b,.leaf (.ret [.cl (.bool (qf9 b))] []))
 | _,_=>none
def BDNumber:Nat->Ct:=tb 121 qm8 qwj
def q3l:Ct:=fun
 | [.cl (.sli .u8 b)],[]=>some (qad b,.leaf (.ret [.cl (.bool (qf9 b))] []))
 | _,_=>none
def q3c:Nat->Ct:=tb 132 KDNumber BDNumber
def KDStrip:Ct:=fun
 | [.cl (.sli .u8 b)],[]=>some (qad b,.leaf (.ret [.cl (.bool (qit b))] []))
 | _,_=>none
def BDStrip:Nat->Ct:=tb 145 q3l q3c
def qwu:Ct:=fun
 | [.cl (.sli .u8 b)],[]=>some (qad b,.leaf (.ret [.cl (.bool (qit b))] []))
 | _,_=>none
def qwm:Nat->Ct:=tb 133 KDStrip BDStrip
def KRCont:Ct:=fun
 | [.cl (.sli .u8 b),.cl (.int .i64 i)],[]=>some (decide (0<=i),.leaf (.ret [.cl (.bool (u8Cont b i))] []))
 | _,_=>none
def BRCont:Nat->Ct:=tb 146 qwu qwm
def KRRune:Ct:=fun
 | [.cl (.sli .u8 b),.cl (.int .i64 i)],[]=>some (qad b&&decide (0<=i/\i<b.length),.leaf (.ret [.cl (.int .i64 (u8Rune b i))] []))
 | _,_=>none
def BRRune:Nat->Ct:=tb 192 KRCont BRCont
def KRUtf8:Ct:=fun
 | [.cl (.sli .u8 b)],[]=>some (qad b,.leaf (.ret [.cl (.bool (u8Valid b))] []))
 | _,_=>none
def BRUtf8:Nat->Ct:=tb 179 KRRune BRRune
def KOFit:Ct:=fun
 | [.cl (.sli .u32 o)],[]=>some (true,.leaf (.ret [.cl (.bool (qkp o))] []))
 | _,_=>none
def BOFit:Nat->Ct:=tb 147 KRUtf8 BRUtf8
def KR2Fit:Ct:=fun
 | [.cl (.sli .u32 o)],[]=>some (true,.leaf (.ret [.cl (.bool (qkp o))] []))
 | _,_=>none
def BR2Fit:Nat->Ct:=tb 170 KOFit BOFit
def KR2First:Ct:=fun
 | [.cl (.int .u64 n)],[]=>some (u32Ok n,.leaf (.ret [.cl (.sli .u32 (qg1 n))] []))
 | _,_=>none
def BR2First:Nat->Ct:=tb 150 KR2Fit BR2Fit
def KONumber:Ct:=fun
 | [.cl (.sli .u8 b)],[]=>some (qad b,.leaf (.ret [.cl (.int .u32 ((qgc b).1)),.cl (.int .i64 ((qgc b).2))] []))
 | _,_=>none
def BONumber:Nat->Ct:=tb 149 KR2First BR2First
def KONumbers:Ct:=fun
 | [.cl (.sli .u8 b)],[]=>some (true,.leaf (.ret [.fn (.func 189) [] [.ptr 0 0 0]] [some ⟨.var [.cl (.sli .u8 b)],false⟩]))
 | _,_=>none
def BONumbers:Nat->Ct:=tb 190 KONumber BONumber
def KARoot:Ct:=fun
 | [.cl (.int .i64 0)],[]=>some (true,.leaf (.ret [.ref 0 0 8 true 1] [some ⟨.ints .u32 [2,16,840,1,101,3,4,2],false⟩]))
 | [.cl (.int .i64 1)],[]=>some (true,.leaf (.ret [.ref 0 0 8 true 1] [some ⟨.ints .u32 [2,16,840,1,101,3,4,3],false⟩]))
 | [.cl (.int .i64 2)],[]=>some (true,.leaf (.ret [.ref 0 0 8 true 1] [some ⟨.ints .u32 [2,16,840,1,101,3,4,4],false⟩]))
 | [.cl (.int .i64 3)],[]=>some (true,.leaf (.ret [.ref 0 0 8 true 1] [some ⟨.ints .u32 [2,16,840,1,101,3,4,1],false⟩]))
 | [.cl (.int .i64 4)],[]=>some (true,.leaf (.ret [.ref 0 0 8 true 1] [some ⟨.ints .u32 [1,2,840,113549,1,9,16,3],false⟩]))
 | [.cl (.int .i64 5)],[]=>some (true,.leaf (.ret [.ref 0 0 2 true 1] [some ⟨.ints .u32 [2,999],false⟩]))
 | _,_=>none
def BARoot:Nat->Ct:=tb 169 KONumbers BONumbers
def SOParse:List V->List Obj->Tree:=fun xs obs=>match xs,obs with
 | [.cl (.sli .u8 b)],[]=>.leaf (.ret [.cl (.sli .u32 ((qb6 b).1)),.cl (.int .i64 ((qb6 b).2))] [])
 | _,_=>.fail
def qzj:List V->List Obj->Bool:=fun xs obs=>match xs,obs with
 | [.cl (.sli .u8 b)],[]=>qad b
 | _,_=>false
def BOParse:Nat->Ct:=tb 176 KARoot BARoot
def KR2Parse:Ct:=fun
 | [.cl (.sli .u8 b)],[]=>some (qad b,.leaf (.ret [.cl (.sli .u32 ((qb6 b).1)),.cl (.int .i64 ((qb6 b).2))] []))
 | _,_=>none
def BR2Parse:Nat->Ct:=tb 134 (ofS qzj SOParse) BOParse
def KR1Same:Ct:=fun
 | [.cl (.sli .u8 a),.cl (.sli .u8 b)],[]=>some (qc7 a,.leaf (.ret [.cl (.bool (qbt a b))] []))
 | _,_=>none
def BR1Same:Nat->Ct:=tb 107 KR2Parse BR2Parse
def KSClone:Ct:=fun
 | [.cl (.sli .u8 b)],[]=>some (qc7 b,.leaf (.ret [.cl (.sli .u8 b)] []))
 | _,_=>none
def BSClone:Nat->Ct:=tb 14 KR1Same BR1Same
def KR1Num:Ct:=fun
 | [.cl (.sli .u8 b)],[]=>some (qad b&&decide (b.length<=7),.leaf (.ret [.cl (.int .u64 (qhk b))] []))
 | _,_=>none
def BR1Num:Nat->Ct:=tb 91 KSClone BSClone
def KRLength:Ct:=fun
 | [.cl (.sli .u8 b)],[]=>some (qad b,.leaf (.ret [.cl (.int .i64 ((qg8 b).1)),.cl (.int .i64 ((qg8 b).2))] []))
 | _,_=>none
def BRLength:Nat->Ct:=tb 144 KR1Num BR1Num
def KR4Less:Ct:=fun
 | [.cl (.sli .u8 a),.cl (.sli .u8 b)],[]=>some (qc7 a,.leaf (.ret [.cl (.bool (qew a b))] []))
 | _,_=>none
def BR4Less:Nat->Ct:=tb 102 KRLength BRLength
def KUWord:Ct:=fun
 | [.cl (.sli .u8 b)],[]=>some (qad b&&decide (8<=b.length),.leaf (.ret [.cl (.int .u64 (u8Word b))] []))
 | _,_=>none
def BUWord:Nat->Ct:=tb 111 KR4Less BR4Less
def KUValid:Ct:=fun
 | [.cl (.sli .u8 b)],[]=>some (qad b,.leaf (.ret [.cl (.bool (u8Valid b))] []))
 | _,_=>none
def BUValid:Nat->Ct:=tb 171 KUWord BUWord
def KDFits:Ct:=fun
 | [.cl (.int .i64 tag),.cl (.sli .u8 b)],[]=>some (qad b,.leaf (.ret [.cl (.bool (qc3 tag b))] []))
 | _,_=>none
def BDFits:Nat->Ct:=tb 135 KUValid BUValid
def KRFits:Ct:=fun
 | [.cl (.int .i64 tag),.cl (.sli .u8 b)],[]=>some (qad b,.leaf (.ret [.cl (.bool (qc3 tag b))] []))
 | _,_=>none
def BRFits:Nat->Ct:=tb 90 KDFits BDFits
def KR4Sorted:Ct:=fun
 | [.cl (.slg 1 l)],[]=>some (qij l,.leaf (.ret [.cl (.bool (qbv l))] []))
 | _,_=>none
def BR4Sorted:Nat->Ct:=tb 104 KRFits BRFits
def SBACompare:List V->List Obj->Tree:=fun xs obs=>match xs,obs with
 | [.cl (.sli .u8 a),.cl (.sli .u8 b)],[]=>.leaf (.ret [.cl (.int .i64 (qhe a b))] [])
 | _,_=>.fail
def qja:List V->List Obj->Bool:=fun xs obs=>match xs,obs with
 | [.cl (.sli .u8 a),.cl (.sli .u8 b)],[]=>qad a&&qad b
 | _,_=>false
def BBACompare:Nat->Ct:=tb 105 KR4Sorted BR4Sorted
def KBCompare:Ct:=fun
 | [.cl (.sli .u8 a),.cl (.sli .u8 b)],[]=>some (qad a&&qad b,.leaf (.ret [.cl (.int .i64 (qhe a b))] []))
 | _,_=>none
def BBCompare:Nat->Ct:=tb 185 (ofS qja SBACompare) BBACompare
def KOLess:Ct:=fun
 | [.cl (.sli .u8 a),.cl (.sli .u8 b)],[]=>some (qad a&&qad b,.leaf (.ret [.cl (.bool (decide (qhe a b<=0)))] []))
 | _,_=>none
def BOLess:Nat->Ct:=tb 161 KBCompare BBCompare
def KOSteps:Ct:=fun
 | [.cl (.slg 1 l),.cl (.fn (.func 160) [] [])],[]=>some (qij l,.leaf (.ret [.cl (.bool (qbv l))] []))
 | _,_=>none
def BOSteps:Nat->Ct:=tb 160 KOLess BOLess
def KOSorted:Ct:=fun
 | [.cl (.slg 1 l)],[]=>some (qij l,.leaf (.ret [.cl (.bool (qbv l))] []))
 | _,_=>none
def BOSorted:Nat->Ct:=tb 159 KOSteps BOSteps
def qu2:List V->List Obj->Tree:=fun xs obs=>match xs,obs with
 | [.cl (.sli .u8 b),.cl (.int .i64 deep)],[]=>.leaf (.ret [.cl (.agg [.int .i64 ((qex b deep).1.1),.sli .u8 ((qex b deep).1.2.1),.slg 3 ((qex b deep).1.2.2)]),.cl (.int .i64 ((qex b deep).2.1)),.cl (.int .i64 ((qex b deep).2.2))] [])
 | _,_=>.fail
def qre:List V->List Obj->Bool:=fun xs obs=>match xs,obs with
 | [.cl (.sli .u8 b),.cl (.int .i64 deep)],[]=>qad b&&qc2 deep
 | _,_=>false
def qtq(rk:Nat):List V->List Obj->Bool:=fun xs obs=>match xs,obs with
 | [.cl (.sli .u8 b),.cl (.int .i64 deep)],[]=>qad b&&(qc2 deep&&decide (deep.toNat<rk))
 | _,_=>false
def xbmb:Nat->Ct:=tb 123 KOSorted BOSorted
def KRParse:Ct:=fun
 | [.cl (.sli .u8 b)],[]=>some (qad b,.leaf (.ret [.cl (.agg [.int .i64 ((qap b).1.1),.sli .u8 ((qap b).1.2.1),.slg 3 ((qap b).1.2.2)]),.cl (.int .i64 ((qap b).2))] []))
 | _,_=>none
def BRParse:Nat->Ct:=tb 59 (ofS qre qu2) xbmb
def KDMust:Ct:=fun
 | [.cl (.bool true),.cl (.int .i64 e)],[]=>some (true,.leaf (.ret [] []))
 | [.cl (.bool false),.cl (.int .i64 e)],[]=>some (true,.ite (true) (.leaf (.pan (.iface 85 (.agg [.int .i64 e])) [])) (.leaf (.ret [] [])))
 | _,_=>none
def BDMust:Nat->Ct:=tb 30 KRParse BRParse
def KDNext:Ct:=fun
 | [.ptr 0 0 0],[⟨.var [.cl (.sli .u8 l),.cl (.int .i64 d)],false⟩]=>some (qad l,.ite (l.isEmpty) (.leaf (.pan (.iface 85 (.agg [.int .i64 1])) [some ⟨.var [.cl (.sli .u8 l),.cl (.int .i64 d)],false⟩])) (.leaf (.ret [.cl (.int .i64 (l.headD 0))] [some ⟨.var [.cl (.sli .u8 l.tail),.cl (.int .i64 d)],false⟩])))
 | _,_=>none
def BDNext:Nat->Ct:=tb 49 KDMust BDMust
def KDLength:Ct:=fun
 | [.ptr 0 0 0],[⟨.var [.cl (.sli .u8 l),.cl (.int .i64 d)],false⟩]=>some (qad l,.ite (!(qqf l)) (.leaf (.pan (.iface 85 (.agg [.int .i64 1])) [some ⟨.var [.cl (.sli .u8 (qhj l)),.cl (.int .i64 d)],false⟩])) (.leaf (.ret [.cl (.int .i64 ((qez l).1))] [some ⟨.var [.cl (.sli .u8 ((qez l).2)),.cl (.int .i64 d)],false⟩])))
 | _,_=>none
def BDLength:Nat->Ct:=tb 86 KDNext BDNext
def SDValue:List V->List Obj->Tree:=fun xs obs=>match xs,obs with
 | [.ptr 0 0 0],[⟨.var [.cl (.sli .u8 l),.cl (.int .i64 d)],false⟩]=>.ite (!(decide ((qma l d).1=0))) (.leaf (.pan (.iface 85 (.agg [.int .i64 ((qma l d).1)])) [some ⟨.var [.cl (.sli .u8 ((qma l d).2.2)),.cl (.int .i64 d)],false⟩])) (.leaf (.ret [.cl (.agg [.int .i64 ((qma l d).2.1.1),.sli .u8 ((qma l d).2.1.2.1),.slg 3 ((qma l d).2.1.2.2)])] [some ⟨.var [.cl (.sli .u8 ((qma l d).2.2)),.cl (.int .i64 d)],false⟩]))
 | _,_=>.fail
def qob:List V->List Obj->Bool:=fun xs obs=>match xs,obs with
 | [.ptr 0 0 0],[⟨.var [.cl (.sli .u8 l),.cl (.int .i64 d)],false⟩]=>qad l&&qc2 d
 | _,_=>false
def qks(rk:Nat):List V->List Obj->Bool:=fun xs obs=>match xs,obs with
 | [.ptr 0 0 0],[⟨.var [.cl (.sli .u8 l),.cl (.int .i64 d)],false⟩]=>qad l&&(qc2 d&&decide (d.toNat<rk))
 | _,_=>false
def BDValue:Nat->Ct:=tb 88 KDLength BDLength
def SDParts:List V->List Obj->Tree:=fun xs obs=>match xs,obs with
 | [.ptr 0 0 0,.cl (.int .i64 tag),.cl (.sli .u8 b)],[⟨.var [.cl (.sli .u8 l),.cl (.int .i64 d)],false⟩]=>.ite (!(decide ((qbc tag b d).1=0))) (.leaf (.pan (.iface 85 (.agg [.int .i64 ((qbc tag b d).1)])) [some ⟨.var [.cl (.sli .u8 l),.cl (.int .i64 d)],false⟩])) (.leaf (.ret [.cl (.agg [.int .i64 ((qbc tag b d).2.1),.sli .u8 ((qbc tag b d).2.2.1),.slg 3 ((qbc tag b d).2.2.2)])] [some ⟨.var [.cl (.sli .u8 l),.cl (.int .i64 d)],false⟩]))
 | _,_=>.fail
def qrd:List V->List Obj->Bool:=fun xs obs=>match xs,obs with
 | [.ptr 0 0 0,.cl (.int .i64 tag),.cl (.sli .u8 b)],[⟨.var [.cl (.sli .u8 l),.cl (.int .i64 d)],false⟩]=>qad b&&(qc2 d&&decide (0<d))
 | _,_=>false
def qtp(rk:Nat):List V->List Obj->Bool:=fun xs obs=>match xs,obs with
 | [.ptr 0 0 0,.cl (.int .i64 tag),.cl (.sli .u8 b)],[⟨.var [.cl (.sli .u8 l),.cl (.int .i64 d)],false⟩]=>qad b&&(qc2 d&&decide (0<d/\d.toNat<rk+1))
 | _,_=>false
def BDParts:Nat->Ct:=tb 48 (ofS qob SDValue) BDValue
def SDParse:List V->List Obj->Tree:=fun xs obs=>match xs,obs with
 | [.cl (.sli .u8 b)],[]=>.leaf (.ret [.cl (.agg [.int .i64 ((qap b).1.1),.sli .u8 ((qap b).1.2.1),.slg 3 ((qap b).1.2.2)]),.cl (.int .i64 ((qap b).2))] [])
 | _,_=>.fail
def qzi:List V->List Obj->Bool:=fun xs obs=>match xs,obs with
 | [.cl (.sli .u8 b)],[]=>qad b
 | _,_=>false
def BDParse:Nat->Ct:=tb 89 (ofS qrd SDParts) BDParts
def SDSize:List V->List Obj->Tree:=fun xs obs=>match xs,obs with
 | [.cl (.agg a),.cl (.int .i64 deep)],[]=>.leaf (.ret [.cl (.int .i64 (q5b a deep))] [])
 | _,_=>.fail
def qto:List V->List Obj->Bool:=fun xs obs=>match xs,obs with
 | [.cl (.agg a),.cl (.int .i64 deep)],[]=>isS a&&qc2 deep
 | _,_=>false
def ql0(rk:Nat):List V->List Obj->Bool:=fun xs obs=>match xs,obs with
 | [.cl (.agg a),.cl (.int .i64 deep)],[]=>isSr rk a&&qc2 deep
 | _,_=>false
def BDSize:Nat->Ct:=tb 23 (ofS qzi SDParse) BDParse
def KDPut:Ct:=fun
 | [.nils,.cl (.int .i64 tag),.cl (.int .i64 n)],[]=>some (ql8 tag n,.leaf (.ret [.ref 0 0 ((qd3 tag n).length) true 1] [some ⟨.ints .u8 (qd3 tag n),false⟩]))
 | _,_=>none
def BDPut:Nat->Ct:=tb 73 (ofS qto SDSize) BDSize
def KRHead:Ct:=fun
 | [.cl (.int .i64 tag),.cl (.int .i64 n)],[]=>some (ql8 tag n,.leaf (.ret [.ref 0 0 ((qd3 tag n).length) true 1] [some ⟨.ints .u8 (qd3 tag n),false⟩]))
 | _,_=>none
def BRHead:Nat->Ct:=tb 122 KDPut BDPut
def KR1Join:Ct:=fun
 | [.cl (.slg 1 l)],[]=>some (qpc l,.leaf (.ret [.cl (.sli .u8 (qd5 l))] []))
 | _,_=>none
def BR1Join:Nat->Ct:=tb 128 KRHead BRHead
def SSGrow:List V->List Obj->Tree:=fun xs obs=>match xs,obs with
 | [.nils,.cl (.int .i64 n)],[]=>.leaf (.ret [.ref 0 0 0 true 1] [some ⟨.ints .u8 qa6,false⟩])
 | _,_=>.fail
def qzk:List V->List Obj->Bool:=fun xs obs=>match xs,obs with
 | [.nils,.cl (.int .i64 n)],[]=>q1g n
 | _,_=>false
def BSGrow:Nat->Ct:=tb 129 KR1Join BR1Join
def KSConcat:Ct:=fun
 | [.cl (.slg 1 l)],[]=>some (qpc l,.leaf (.ret [.cl (.sli .u8 (qd5 l))] []))
 | _,_=>none
def BSConcat:Nat->Ct:=tb 162 (ofS qzk SSGrow) BSGrow
def SDWrite:List V->List Obj->Tree:=fun xs obs=>match xs,obs with
 | [.cl (.agg a)],[]=>.leaf (.ret [.cl (.sli .u8 ((qko a).1)),.cl (.bool ((qko a).2))] [])
 | _,_=>.fail
def qoc:List V->List Obj->Bool:=fun xs obs=>match xs,obs with
 | [.cl (.agg a)],[]=>isW a
 | _,_=>false
def qif(rk:Nat):List V->List Obj->Bool:=fun xs obs=>match xs,obs with
 | [.cl (.agg a)],[]=>isWr rk a
 | _,_=>false
def BDWrite:Nat->Ct:=tb 124 KSConcat BSConcat
def SRWrite:List V->List Obj->Tree:=fun xs obs=>match xs,obs with
 | [.cl (.agg a),.cl (.int .i64 deep)],[]=>.leaf (.ret [.cl (.sli .u8 ((qg0 a deep).1)),.cl (.bool ((qg0 a deep).2))] [])
 | _,_=>.fail
def qod:List V->List Obj->Bool:=fun xs obs=>match xs,obs with
 | [.cl (.agg a),.cl (.int .i64 deep)],[]=>isS a&&qc2 deep
 | _,_=>false
def qig(rk:Nat):List V->List Obj->Bool:=fun xs obs=>match xs,obs with
 | [.cl (.agg a),.cl (.int .i64 deep)],[]=>isSr rk a&&qc2 deep
 | _,_=>false
def BRWrite:Nat->Ct:=tb 74 (ofS qoc SDWrite) BDWrite
def SDBytes:List V->List Obj->Tree:=fun xs obs=>match xs,obs with
 | [.cl (.agg a)],[]=>.leaf (.ret [.cl (.sli .u8 ((qbf a).1)),.cl (.int .i64 ((qbf a).2))] [])
 | _,_=>.fail
def qjb:List V->List Obj->Bool:=fun xs obs=>match xs,obs with
 | [.cl (.agg a)],[]=>isS a
 | _,_=>false
def BDBytes:Nat->Ct:=tb 77 (ofS qod SRWrite) BRWrite
def xbqa:List V->List Obj->Tree:=fun xs obs=>match xs,obs with
 | [.cl (.agg a)],[]=>.leaf (.ret [.cl (.bool (qul a))] [])
 | _,_=>.fail
def qpn:List V->List Obj->Bool:=fun xs obs=>match xs,obs with
 | [.cl (.agg a)],[]=>isS a
 | _,_=>false
def xbvd:Nat->Ct:=tb 36 (ofS qjb SDBytes) BDBytes
def SRBytes:List V->List Obj->Tree:=fun xs obs=>match xs,obs with
 | [.cl (.agg a)],[]=>.leaf (.ret [.cl (.sli .u8 ((qbf a).1)),.cl (.int .i64 ((qbf a).2))] [])
 | _,_=>.fail
def qjc:List V->List Obj->Bool:=fun xs obs=>match xs,obs with
 | [.cl (.agg a)],[]=>isS a
 | _,_=>false
def BRBytes:Nat->Ct:=tb 72 (ofS qpn xbqa) xbvd
def xbqb:List V->List Obj->Tree:=fun xs obs=>match xs,obs with
 | [.cl (.agg a)],[]=>.leaf (.ret [.cl (.bool (qul a))] [])
 | _,_=>.fail
def qpo:List V->List Obj->Bool:=fun xs obs=>match xs,obs with
 | [.cl (.agg a)],[]=>isS a
 | _,_=>false
def xbve:Nat->Ct:=tb 38 (ofS qjc SRBytes) BRBytes
def KR2Same:Ct:=fun
 | [.cl (.sli .u32 a),.cl (.sli .u32 b)],[]=>some (qc7 a,.leaf (.ret [.cl (.bool (qbt a b))] []))
 | _,_=>none
def BR2Same:Nat->Ct:=tb 66 (ofS qpo xbqb) xbve
def KSEq32:Ct:=fun
 | [.cl (.sli .u32 a),.cl (.sli .u32 b)],[]=>some (qc7 a,.leaf (.ret [.cl (.bool (qbt a b))] []))
 | _,_=>none
def BSEq32:Nat->Ct:=tb 109 KR2Same BR2Same
def KOSame:Ct:=fun
 | [.cl (.sli .u32 a),.cl (.sli .u32 b)],[]=>some (qc7 a,.leaf (.ret [.cl (.bool (qbt a b))] []))
 | _,_=>none
def BOSame:Nat->Ct:=tb 177 KSEq32 BSEq32
def KOPut:Ct:=fun
 | [.nils,.cl (.int .u32 n)],[]=>some (u32Ok n,.leaf (.ret [.ref 0 0 ((qbq n).length) true 1] [some ⟨.ints .u8 (qbq n),false⟩]))
 | [.ref 0 0 m true 1,.cl (.int .u32 n)],[⟨.ints .u8 l,false⟩]=>some (u32Ok n&&qc7 l,.leaf (.ret [.ref 1 0 ((l++qbq n).length) true 1] [none,some ⟨.ints .u8 (l++qbq n),false⟩]))
 | _,_=>none
def BOPut:Nat->Ct:=tb 139 KOSame BOSame
def KR2Groups:Ct:=fun
 | [.cl (.int .u32 n)],[]=>some (u32Ok n,.leaf (.ret [.ref 0 0 ((qbq n).length) true 1] [some ⟨.ints .u8 (qbq n),false⟩]))
 | _,_=>none
def BR2Groups:Nat->Ct:=tb 184 KOPut BOPut
def KOBytes:Ct:=fun
 | [.cl (.sli .u32 o)],[]=>some (qu0 o,.leaf (.ret [.cl (.sli .u8 (qax o))] []))
 | _,_=>none
def BOBytes:Nat->Ct:=tb 183 KR2Groups BR2Groups
def KR2Bytes:Ct:=fun
 | [.cl (.sli .u32 o)],[]=>some (qu0 o,.leaf (.ret [.cl (.sli .u8 (qax o))] []))
 | _,_=>none
def BR2Bytes:Nat->Ct:=tb 156 KOBytes BOBytes
def KVBNum:Ct:=fun
 | [.cl (.sli .u8 b)],[]=>some (num8 b,.leaf (.ret [.cl (.int .u64 (qhk b))] []))
 | _,_=>none
def BVBNum:Nat->Ct:=tb 154 KR2Bytes BR2Bytes
def KVLe:Ct:=fun
 | [.cl (.int .u64 n),.cl (.int .i64 8)],[]=>some (u64Ok n,.leaf (.ret [.ref 0 0 8 true 1] [some ⟨.ints .u8 (vLe n),false⟩]))
 | _,_=>none
def BVLe:Nat->Ct:=tb 92 KVBNum BVBNum
def KVReverse:Ct:=fun
 | [.ref 0 0 8 true 1],[⟨.ints .u8 l,false⟩]=>some (xb0m l,.leaf (.ret [] [some ⟨.ints .u8 (vRev l),false⟩]))
 | _,_=>none
def BVReverse:Nat->Ct:=tb 157 KVLe BVLe
def KVBe:Ct:=fun
 | [.cl (.int .u64 n),.cl (.int .i64 8)],[]=>some (u64Ok n,.leaf (.ret [.cl (.sli .u8 (vBe n))] []))
 | _,_=>none
def BVBe:Nat->Ct:=tb 158 KVReverse BVReverse
def KVR1Be:Ct:=fun
 | [.cl (.int .u64 n),.cl (.int .i64 8)],[]=>some (u64Ok n,.leaf (.ret [.cl (.sli .u8 (vBe n))] []))
 | _,_=>none
def BVR1Be:Nat->Ct:=tb 120 KVBe BVBe
def KVInt:Ct:=fun
 | [.cl (.int .i64 n)],[]=>some (q5u n,.leaf (.ret [.cl (.agg [.int .i64 2,.sli .u8 (vInt n),.slg 3 qcg])] []))
 | _,_=>none
def BVInt:Nat->Ct:=tb 114 KVR1Be BVR1Be
def KVRInt:Ct:=fun
 | [.cl (.int .i64 n)],[]=>some (q5u n,.leaf (.ret [.cl (.agg [.int .i64 2,.sli .u8 (vInt n),.slg 3 qcg])] []))
 | _,_=>none
def BVRInt:Nat->Ct:=tb 71 KVInt BVInt
def KVNumber:Ct:=fun
 | [.cl (.sli .u8 b)],[]=>some (qad b,.leaf (.ret [.cl (.int .i64 ((qqm b).1)),.cl (.int .i64 ((qqm b).2))] []))
 | _,_=>none
def BVNumber:Nat->Ct:=tb 65 KVRInt BVRInt
def KVPlain:Ct:=fun
 | [.cl (.agg [.int .i64 t,.sli .u8 b,.slg 3 k]),.cl (.int .i64 g)],[]=>some (isS [.int .i64 t,.sli .u8 b,.slg 3 k],.leaf (.ret [.cl (.sli .u8 ((quh g t b k).1)),.cl (.int .i64 ((quh g t b k).2))] []))
 | _,_=>none
def BVPlain:Nat->Ct:=tb 53 KVNumber BVNumber
def xbb3:Ct:=fun
 | [.cl (.agg [.int .i64 t,.sli .u8 b,.slg 3 k]),.cl (.int .i64 2),.cl (.fn (.func 53) [] [])],[]=>some (isS [.int .i64 t,.sli .u8 b,.slg 3 k],.leaf (.ret [.cl (.int .i64 ((qb7 t b k).1)),.cl (.int .i64 ((qb7 t b k).2))] []))
 | _,_=>none
def xbbp:Nat->Ct:=tb 106 KVPlain BVPlain
def xbb4:Ct:=fun
 | [.cl (.agg [.int .i64 t,.sli .u8 b,.slg 3 k]),.cl (.int .i64 6),.cl (.fn (.func 134) [] [])],[]=>some (isS [.int .i64 t,.sli .u8 b,.slg 3 k],.leaf (.ret [.cl (.sli .u32 ((qe7 t b k).1)),.cl (.int .i64 ((qe7 t b k).2))] []))
 | _,_=>none
def xbbq:Nat->Ct:=tb 52 xbb3 xbbp
def xbb1:Ct:=fun
 | [.cl (.agg [.int .i64 t,.sli .u8 b,.slg 3 k])],[]=>some (isS [.int .i64 t,.sli .u8 b,.slg 3 k],.leaf (.ret [.cl (.int .i64 ((qb7 t b k).1)),.cl (.int .i64 ((qb7 t b k).2))] []))
 | _,_=>none
def xbbn:Nat->Ct:=tb 137 xbb4 xbbq
def qww:Ct:=fun
 | [.cl (.agg [.int .i64 t,.sli .u8 b,.slg 3 k])],[]=>some (isS [.int .i64 t,.sli .u8 b,.slg 3 k],.leaf (.ret [.cl (.sli .u8 ((qa0 t b k).1)),.cl (.int .i64 ((qa0 t b k).2))] []))
 | _,_=>none
def qwo:Nat->Ct:=tb 25 xbb1 xbbn
def xbp8:Ct:=fun
 | [.cl (.agg [.int .i64 t,.sli .u8 b,.slg 3 k])],[]=>some (isS [.int .i64 t,.sli .u8 b,.slg 3 k],.leaf (.ret [.cl (.sli .u32 ((qe7 t b k).1)),.cl (.int .i64 ((qe7 t b k).2))] []))
 | _,_=>none
def xbpk:Nat->Ct:=tb 140 qww qwo
def xbb2:Ct:=fun
 | [.cl (.agg [.int .i64 t,.sli .u8 b,.slg 3 k])],[]=>some (isS [.int .i64 t,.sli .u8 b,.slg 3 k],.leaf (.ret [.cl (.sli .u32 ((qe7 t b k).1)),.cl (.int .i64 ((qe7 t b k).2))] []))
 | _,_=>none
def xbbo:Nat->Ct:=tb 93 xbp8 xbpk
def KVMade:Ct:=fun
 | [.cl (.int .i64 g),.cl (.sli .u8 b)],[]=>some (qs8 g b,.leaf (.ret [.cl (.agg [.int .i64 ((qge g b).1),.sli .u8 ((qge g b).2.1),.slg 3 qcg]),.cl (.int .i64 ((qge g b).2.2))] []))
 | _,_=>none
def BVMade:Nat->Ct:=tb 60 xbb2 xbbo
def KVId:Ct:=fun
 | [.cl (.sli .u32 o)],[]=>some (idOk o,.leaf (.ret [.cl (.agg [.int .i64 ((qge 6 (qax o)).1),.sli .u8 ((qge 6 (qax o)).2.1),.slg 3 qcg]),.cl (.int .i64 ((qge 6 (qax o)).2.2))] []))
 | _,_=>none
def BVId:Nat->Ct:=tb 155 KVMade BVMade
def KVBytes:Ct:=fun
 | [.cl (.sli .u8 b)],[]=>some (qc7 b,.leaf (.ret [.cl (.agg [.int .i64 4,.sli .u8 b,.slg 3 qcg])] []))
 | _,_=>none
def BVBytes:Nat->Ct:=tb 118 KVId BVId
def KVRMade:Ct:=fun
 | [.cl (.int .i64 g),.cl (.sli .u8 b)],[]=>some (qs8 g b,.leaf (.ret [.cl (.agg [.int .i64 ((qge g b).1),.sli .u8 ((qge g b).2.1),.slg 3 qcg]),.cl (.int .i64 ((qge g b).2.2))] []))
 | _,_=>none
def BVRMade:Nat->Ct:=tb 119 KVBytes BVBytes
def KVRId:Ct:=fun
 | [.cl (.sli .u32 o)],[]=>some (idOk o,.leaf (.ret [.cl (.agg [.int .i64 ((qge 6 (qax o)).1),.sli .u8 ((qge 6 (qax o)).2.1),.slg 3 qcg]),.cl (.int .i64 ((qge 6 (qax o)).2.2))] []))
 | _,_=>none
def BVRId:Nat->Ct:=tb 153 KVRMade BVRMade
def KVRBytes:Ct:=fun
 | [.cl (.sli .u8 b)],[]=>some (qc7 b,.leaf (.ret [.cl (.agg [.int .i64 4,.sli .u8 b,.slg 3 qcg])] []))
 | _,_=>none
def BVRBytes:Nat->Ct:=tb 112 KVRId BVRId
def KVClone:Ct:=fun
 | [.cl (.slg 3 l)],[]=>some (qbr l,.leaf (.ret [.cl (.slg 3 l)] []))
 | _,_=>none
def BVClone:Nat->Ct:=tb 113 KVRBytes BVRBytes
def KVSeq:Ct:=fun
 | [.cl (.slg 3 l)],[]=>some (qbr l,.leaf (.ret [.cl (.agg [.int .i64 48,.sli .u8 qa6,.slg 3 l])] []))
 | _,_=>none
def BVSeq:Nat->Ct:=tb 51 KVClone BVClone
def KVBox:Ct:=fun
 | [.cl (.int .i64 g),.cl (.slg 3 l)],[]=>some (qbr l,.leaf (.ret [.cl (.agg [.int .i64 ((vBox g l).1),.sli .u8 qa6,.slg 3 ((vBox g l).2.1)]),.cl (.int .i64 ((vBox g l).2.2))] []))
 | _,_=>none
def BVBox:Nat->Ct:=tb 70 KVSeq BVSeq
def KVKids:Ct:=fun
 | [.cl (.agg [.int .i64 t,.sli .u8 b,.slg 3 k]),.cl (.int .i64 g)],[]=>some (qbr k,.leaf (.ret [.cl (.slg 3 ((qbz g t b k).1)),.cl (.int .i64 ((qbz g t b k).2))] []))
 | _,_=>none
def BVKids:Nat->Ct:=tb 165 KVBox BVBox
def KVRSeq:Ct:=fun
 | [.cl (.slg 3 l)],[]=>some (qbr l,.leaf (.ret [.cl (.agg [.int .i64 48,.sli .u8 qa6,.slg 3 l])] []))
 | _,_=>none
def BVRSeq:Nat->Ct:=tb 24 KVKids BVKids
def KVRBox:Ct:=fun
 | [.cl (.int .i64 g),.cl (.slg 3 l)],[]=>some (qbr l,.leaf (.ret [.cl (.agg [.int .i64 ((vBox g l).1),.sli .u8 qa6,.slg 3 ((vBox g l).2.1)]),.cl (.int .i64 ((vBox g l).2.2))] []))
 | _,_=>none
def BVRBox:Nat->Ct:=tb 64 KVRSeq BVRSeq
def KAAll:Ct:=fun
 | [],[]=>some (true,.leaf (.ret [.cl (.fn (.func 175) [] [])] []))
 | _,_=>none
def BAAll:Nat->Ct:=tb 130 KVRBox BVRBox
def SAFound:List V->List Obj->Tree:=fun xs obs=>match xs,obs with
 | [.cl (.int .i64 g)],[]=>.leaf (.ret [.cl (.agg [.int .i64 ((qay g).1),.int .i64 ((qay g).2.1),.sli .u32 ((qay g).2.2)])] [])
 | _,_=>.fail
def qzh:List V->List Obj->Bool:=fun xs obs=>match xs,obs with
 | [.cl (.int .i64 g)],[]=>true
 | _,_=>false
def BAFound:Nat->Ct:=tb 138 KAAll BAAll
def KAGroup:Ct:=fun
 | [.cl (.int .i64 g)],[]=>some (true,.leaf (.ret [.cl (.int .i64 ((qay g).2.1))] []))
 | _,_=>none
def BAGroup:Nat->Ct:=tb 116 (ofS qzh SAFound) BAFound
def KAId:Ct:=fun
 | [.cl (.int .i64 g)],[]=>some (true,.leaf (.ret [.cl (.sli .u32 ((qay g).2.2))] []))
 | _,_=>none
def BAId:Nat->Ct:=tb 96 KAGroup BAGroup
def SAOf:List V->List Obj->Tree:=fun xs obs=>match xs,obs with
 | [.cl (.sli .u32 o)],[]=>.leaf (.ret [.cl (.int .i64 (qfz o))] [])
 | _,_=>.fail
def xbtd:List V->List Obj->Bool:=fun xs obs=>match xs,obs with
 | [.cl (.sli .u32 o)],[]=>true
 | _,_=>false
def BAOf:Nat->Ct:=tb 164 KAId BAId
def KARGroup:Ct:=fun
 | [.cl (.int .i64 g)],[]=>some (true,.leaf (.ret [.cl (.int .i64 ((qay g).2.1))] []))
 | _,_=>none
def BARGroup:Nat->Ct:=tb 94 (ofS xbtd SAOf) BAOf
def KARNist:Ct:=fun
 | [.cl (.int .u32 g),.cl (.int .u32 h)],[]=>some (true,.leaf (.ret [.cl (.sli .u32 (qjl g h))] []))
 | _,_=>none
def BARNist:Nat->Ct:=tb 108 KARGroup BARGroup
def KARPkcs:Ct:=fun
 | [.cl (.sli .u32 o)],[]=>some (qc7 o,.leaf (.ret [.cl (.sli .u32 (qu3 o))] []))
 | _,_=>none
def BARPkcs:Nat->Ct:=tb 151 KARNist BARNist
def KARId:Ct:=fun
 | [.cl (.int .i64 g)],[]=>some (true,.leaf (.ret [.cl (.sli .u32 ((qay g).2.2))] []))
 | _,_=>none
def BARId:Nat->Ct:=tb 152 KARPkcs BARPkcs
def KAROf:Ct:=fun
 | [.cl (.sli .u32 o)],[]=>some (true,.leaf (.ret [.cl (.int .i64 (qfz o))] []))
 | _,_=>none
def BAROf:Nat->Ct:=tb 110 KARId BARId
def KAUsed:Ct:=fun
 | [.cl (.int .i64 g)],[]=>some (true,.leaf (.ret [.cl (.int .i64 (qjn g))] []))
 | _,_=>none
def BAUsed:Nat->Ct:=tb 61 KAROf BAROf
def KANode:Ct:=fun
 | [.cl (.int .i64 g),.cl (.sli .u8 b)],[]=>some (qc7 b,.leaf (.ret [.cl (.agg [.int .i64 ((qbo g b).1),.sli .u8 qa6,.slg 3 ((qbo g b).2.1)]),.cl (.int .i64 ((qbo g b).2.2))] []))
 | _,_=>none
def BANode:Nat->Ct:=tb 117 KAUsed BAUsed
def KARNode:Ct:=fun
 | [.cl (.int .i64 g),.cl (.sli .u8 b)],[]=>some (qc7 b,.leaf (.ret [.cl (.agg [.int .i64 ((qbo g b).1),.sli .u8 qa6,.slg 3 ((qbo g b).2.1)]),.cl (.int .i64 ((qbo g b).2.2))] []))
 | _,_=>none
def BARNode:Nat->Ct:=tb 69 KANode BANode
def KATail:Ct:=fun
 | [.cl (.int .i64 g),.cl (.slg 3 l)],[]=>some (q5y l,.leaf (.ret [.cl (.sli .u8 ((qcu g l).1)),.cl (.bool ((qcu g l).2))] []))
 | _,_=>none
def BATail:Nat->Ct:=tb 63 KARNode BARNode
def KARead:Ct:=fun
 | [.cl (.agg [.int .i64 t,.sli .u8 b,.slg 3 k])],[]=>some (isS [.int .i64 t,.sli .u8 b,.slg 3 k],.leaf (.ret [.cl (.int .i64 ((qby t b k).1)),.cl (.sli .u8 ((qby t b k).2.1)),.cl (.int .i64 ((qby t b k).2.2))] []))
 | _,_=>none
def BARead:Nat->Ct:=tb 95 KATail BATail
def KMSize:Ct:=fun
 | [.cl (.int .i64 k)],[]=>some (true,.leaf (.ret [.cl (.int .i64 (qqb k))] []))
 | _,_=>none
def BMSize:Nat->Ct:=tb 55 KARead BARead
def KR9Size:Ct:=fun
 | [.cl (.int .i64 k)],[]=>some (true,.leaf (.ret [.cl (.int .i64 (qqb k))] []))
 | _,_=>none
def BR9Size:Nat->Ct:=tb 168 KMSize BMSize
def KFDig:Ct:=fun
 | [.cl (.sli .u8 b),.ptr 0 0 0],[⟨.var [.cl (.int .i64 s)],false⟩]=>some (qc7 b,.leaf (.ret [.cl (.agg [.int .i64 4,.sli .u8 b,.slg 3 qcg]),.cl (.bool (decide ((b.length:Int)=s)))] [some ⟨.var [.cl (.int .i64 s)],false⟩]))
 | _,_=>none
def BFDig:Nat->Ct:=tb 131 KR9Size BR9Size
def KEDig:Ct:=fun
 | [.cl (.slg 1 l),.cl (.int .i64 lo),.cl (.int .i64 hi),.fn (.func 188) [] [.ptr 0 0 0]],[⟨.var [.cl (.int .i64 s)],false⟩]=>some (qux l,.leaf (.ret [.cl (.slg 3 (dgL s lo hi l)),.cl (.bool (dgB s lo hi l))] [some ⟨.var [.cl (.int .i64 s)],false⟩]))
 | _,_=>none
def BEDig:Nat->Ct:=tb 188 KFDig BFDig
def xbp5:Ct:=fun
 | [.cl (.slg 1 l),.cl (.int .i64 lo),.cl (.int .i64 hi),.fn (.func 188) [] [.ptr 0 0 0]],[⟨.var [.cl (.int .i64 s)],false⟩]=>some (qux l,.leaf (.ret [.cl (.agg [.int .i64 48,.sli .u8 qa6,.slg 3 (dgL s lo hi l)]),.cl (.bool (dgB s lo hi l))] [some ⟨.var [.cl (.int .i64 s)],false⟩]))
 | _,_=>none
def xbph:Nat->Ct:=tb 194 KEDig BEDig
def KFPart:Ct:=fun
 | [.cl (.slg 1 l),.ptr 0 0 0],[⟨.var [.cl (.int .i64 s)],false⟩]=>some (qux l,.leaf (.ret [.cl (.agg [.int .i64 48,.sli .u8 qa6,.slg 3 (dgL s 1 64 l)]),.cl (.bool (dgB s 1 64 l))] [some ⟨.var [.cl (.int .i64 s)],false⟩]))
 | _,_=>none
def BFPart:Nat->Ct:=tb 187 xbp5 xbph
def KEPart:Ct:=fun
 | [.cl (.int .i64 s)],[]=>some (true,.leaf (.ret [.fn (.func 186) [] [.ptr 0 0 0]] [some ⟨.var [.cl (.int .i64 s)],false⟩]))
 | _,_=>none
def BEPart:Nat->Ct:=tb 186 KFPart BFPart
def KEPar:Ct:=fun
 | [.cl (.slg 1 l),.cl (.int .i64 lo),.cl (.int .i64 hi),.fn (.func 186) [] [.ptr 0 0 0]],[⟨.var [.cl (.int .i64 s)],false⟩]=>some (quc l,.leaf (.ret [.cl (.slg 3 (xb0b s lo hi l)),.cl (.bool (xb0a s lo hi l))] [some ⟨.var [.cl (.int .i64 s)],false⟩]))
 | _,_=>none
def BEPar:Nat->Ct:=tb 167 KEPart BEPart
def xbbz:Ct:=fun
 | [.cl (.agg [.int .i64 d,.slg 1 t,.sli .u8 w])],[]=>some (quc t&&qad w,.leaf (.ret [.cl (.agg [.int .i64 ((q7m d t w).1),.sli .u8 qa6,.slg 3 ((q7m d t w).2)]),.cl (.bool (q1p d t w))] []))
 | _,_=>none
def xbbl:Nat->Ct:=tb 166 KEPar BEPar
def KEMar:Ct:=fun
 | [.cl (.slg 3 l),.cl (.int .i64 lo),.cl (.int .i64 hi),.cl (.fn (.func 127) [] [])],[]=>some (qpi l,.leaf (.ret [.cl (.slg 3 (qta lo hi l)),.cl (.bool (qs9 lo hi l))] []))
 | _,_=>none
def BEMar:Nat->Ct:=tb 127 xbbz xbbl
def xbp6:Ct:=fun
 | [.cl (.slg 3 l),.cl (.int .i64 lo),.cl (.int .i64 hi),.cl (.fn (.func 127) [] [])],[]=>some (qpi l,.leaf (.ret [.cl (.agg [.int .i64 48,.sli .u8 qa6,.slg 3 (qta lo hi l)]),.cl (.bool (qs9 lo hi l))] []))
 | _,_=>none
def xbpi:Nat->Ct:=tb 163 KEMar BEMar
def q3h:Ct:=fun
 | [.cl (.slg 3 l)],[]=>some (qpi l,.leaf (.ret [.cl (.agg [.int .i64 48,.sli .u8 qa6,.slg 3 (qta 1 20 l)]),.cl (.bool (qs9 1 20 l))] []))
 | _,_=>none
def q2y:Nat->Ct:=tb 126 xbp6 xbpi
def KECha:Ct:=fun
 | [.cl (.slg 1 l),.cl (.int .i64 lo),.cl (.int .i64 hi),.cl (.fn (.func 76) [] [])],[]=>some (qb0 l,.leaf (.ret [.cl (.slg 3 (qsb lo hi l)),.cl (.bool (qnd lo hi l))] []))
 | _,_=>none
def BECha:Nat->Ct:=tb 76 q3h q2y
def xbp4:Ct:=fun
 | [.cl (.slg 1 l),.cl (.int .i64 lo),.cl (.int .i64 hi),.cl (.fn (.func 76) [] [])],[]=>some (qb0 l,.leaf (.ret [.cl (.agg [.int .i64 48,.sli .u8 qa6,.slg 3 (qsb lo hi l)]),.cl (.bool (qnd lo hi l))] []))
 | _,_=>none
def xbpg:Nat->Ct:=tb 125 KECha BECha
def qwt:Ct:=fun
 | [.cl (.slg 1 l)],[]=>some (qb0 l,.leaf (.ret [.cl (.agg [.int .i64 48,.sli .u8 qa6,.slg 3 (qsb 1 10 l)]),.cl (.bool (qnd 1 10 l))] []))
 | _,_=>none
def qwl:Nat->Ct:=tb 75 xbp4 xbpg
def xbcq:List V->List Obj->Tree:=fun xs obs=>match xs,obs with
 | [.nils,.cl (.int .i64 n)],[]=>.leaf (.ret [.ref 0 0 0 true 3] [some ⟨.gen 3 qcg,false⟩])
 | _,_=>.fail
def qrf:List V->List Obj->Bool:=fun xs obs=>match xs,obs with
 | [.nils,.cl (.int .i64 n)],[]=>q1g n
 | _,_=>false
def xbmc:Nat->Ct:=tb 37 qwt qwl
def qwv:Ct:=fun
 | [.cl (.slg 1 l)],[]=>some (qb0 l,.leaf (.ret [.cl (.slg 3 (xbva l))] []))
 | _,_=>none
def qwn:Nat->Ct:=tb 79 (ofS qrf xbcq) xbmc
def q3m:Ct:=fun
 | [.cl (.sli .i64 l),.cl (.int .i64 d)],[]=>some (qh1 l,.leaf (.ret [.cl (.int .i64 (idxI l d))] []))
 | _,_=>none
def q3d:Nat->Ct:=tb 40 qwv qwn
def xbp7:Ct:=fun
 | [.cl (.sli .i64 l),.cl (.int .i64 d)],[]=>some (qh1 l,.leaf (.ret [.cl (.bool (hasI l d))] []))
 | _,_=>none
def xbpj:Nat->Ct:=tb 80 q3m q3d
def xb3k:Ct:=fun
 | [.cl (.sli .i64 a),.cl (.sli .i64 b)],[]=>some (qh1 a,.leaf (.ret [.cl (.bool (xblv a b))] []))
 | _,_=>none
def xb26:Nat->Ct:=tb 41 xbp7 xbpj
def xbb0:Ct:=fun
 | [.cl (.sli .i64 a),.cl (.sli .i64 b)],[]=>some (qh1 a,.leaf (.ret [.cl (.bool (xblv a b))] []))
 | _,_=>none
def xbbm:Nat->Ct:=tb 42 xb3k xb26
def KEDigests:Ct:=fun
 | [.cl (.slg 1 l)],[]=>some (qb0 l,.leaf (.ret [.cl (.sli .i64 (qmm l))] []))
 | _,_=>none
def BEDigests:Nat->Ct:=tb 32 xbb0 xbbm
def KRDigests:Ct:=fun
 | [.cl (.slg 1 l)],[]=>some (qb0 l,.leaf (.ret [.cl (.sli .i64 (qmm l))] []))
 | _,_=>none
def BRDigests:Nat->Ct:=tb 21 KEDigests BEDigests
def xbpx:Ct:=fun
 | [.cl (.int .i64 g)],[]=>some (true,.leaf (.ret [.cl (.agg [.int .i64 ((qbo g qa6).1),.sli .u8 qa6,.slg 3 ((qbo g qa6).2.1)]),.cl (.bool (decide ((qbo g qa6).2.2=0)))] []))
 | _,_=>none
def xbo9:Nat->Ct:=tb 17 KRDigests BRDigests
def KEAlg:Ct:=fun
 | [.cl (.sli .i64 l),.cl (.int .i64 lo),.cl (.int .i64 hi),.cl (.fn (.func 68) [] [])],[]=>some (quy l,.leaf (.ret [.cl (.slg 3 (xbmh lo hi l)),.cl (.bool (xbqd lo hi l))] []))
 | _,_=>none
def BEAlg:Nat->Ct:=tb 68 xbpx xbo9
def xbp3:Ct:=fun
 | [.cl (.sli .i64 l),.cl (.int .i64 lo),.cl (.int .i64 hi),.cl (.fn (.func 68) [] [])],[]=>some (quy l,.leaf (.ret [.cl (.agg [.int .i64 48,.sli .u8 qa6,.slg 3 (xbmh lo hi l)]),.cl (.bool (xbqd lo hi l))] []))
 | _,_=>none
def xbpf:Nat->Ct:=tb 115 KEAlg BEAlg
def KERec:Ct:=fun
 | [.cl (.agg [.sli .i64 g,.slg 1 c])],[]=>some (qh1 g&&recO c,.leaf (.ret [.cl (.agg [.int .i64 ((qga g c).1),.sli .u8 qa6,.slg 3 ((qga g c).2)]),.cl (.bool (evOk g c))] []))
 | _,_=>none
def BERec:Nat->Ct:=tb 67 xbp3 xbpf
def KERFit:Ct:=fun
 | [.cl (.agg [.sli .i64 g,.slg 1 c])],[]=>some (qh1 g&&recO c,.leaf (.ret [.cl (.bool (evOk g c))] []))
 | _,_=>none
def BERFit:Nat->Ct:=tb 35 KERec BERec
def KRMark:Ct:=fun
 | [.cl (.agg [.int .i64 d,.slg 1 t,.sli .u8 w])],[]=>some (quc t&&qad w,.leaf (.ret [.cl (.agg [.int .i64 ((q49 d t w).1),.sli .u8 qa6,.slg 3 ((q49 d t w).2)]),.cl (.bool (q1p d t w))] []))
 | _,_=>none
def BRMark:Nat->Ct:=tb 15 KERFit BERFit
def KRChains:Ct:=fun
 | [.cl (.slg 1 l)],[]=>some (qb0 l,.leaf (.ret [.cl (.agg [.int .i64 ((qoe l).1),.sli .u8 qa6,.slg 3 ((qoe l).2)]),.cl (.bool (qnd 1 10 l))] []))
 | _,_=>none
def BRChains:Nat->Ct:=tb 78 KRMark BRMark
def KRRec:Ct:=fun
 | [.cl (.agg [.sli .i64 g,.slg 1 c])],[]=>some (qh1 g&&recO c,.leaf (.ret [.cl (.agg [.int .i64 ((qga g c).1),.sli .u8 qa6,.slg 3 ((qga g c).2)]),.cl (.bool (evOk g c))] []))
 | _,_=>none
def BRRec:Nat->Ct:=tb 39 KRChains BRChains
def KRRBytes:Ct:=fun
 | [.cl (.agg [.sli .i64 g,.slg 1 c])],[]=>some (qh1 g&&recO c,.leaf (.ret [.cl (.sli .u8 ((qg9 g c).1)),.cl (.int .i64 ((qg9 g c).2))] []))
 | _,_=>none
def BRRBytes:Nat->Ct:=tb 34 KRRec BRRec
def xbby:Ct:=fun
 | [.cl (.agg [.int .i64 t,.sli .u8 b,.slg 3 k])],[]=>some (isS [.int .i64 t,.sli .u8 b,.slg 3 k],.leaf (.ret [.cl (.sli .u8 ((qa0 t b k).1)),.cl (.bool (decide ((qa0 t b k).2=0)))] []))
 | _,_=>none
def xbbk:Nat->Ct:=tb 19 KRRBytes BRRBytes
def xbpu:Ct:=fun
 | [.cl (.slg 3 l),.cl (.int .i64 lo),.cl (.int .i64 hi),.cl (.fn (.func 143) [] [])],[]=>some (qfx l,.leaf (.ret [.cl (.slg 1 (q05 lo hi l)),.cl (.bool (q03 lo hi l))] []))
 | _,_=>none
def xbo6:Nat->Ct:=tb 143 xbby xbbk
def xbp0:Ct:=fun
 | [.cl (.agg [.int .i64 t,.sli .u8 b,.slg 3 k]),.cl (.int .i64 g),.cl (.fn (.func 143) [] [])],[]=>some (isS [.int .i64 t,.sli .u8 b,.slg 3 k],.leaf (.ret [.cl (.slg 1 (ldL g t b k)),.cl (.bool (ldB g t b k))] []))
 | _,_=>none
def xbpc:Nat->Ct:=tb 178 xbpu xbo6
def q3k:Ct:=fun
 | [.cl (.agg [.int .i64 t,.sli .u8 b,.slg 3 k])],[]=>some (isS [.int .i64 t,.sli .u8 b,.slg 3 k],.leaf (.ret [.cl (.slg 1 (ldL 48 t b k)),.cl (.bool (ldB 48 t b k))] []))
 | _,_=>none
def q3b:Nat->Ct:=tb 142 xbp0 xbpc
def xbpw:Ct:=fun
 | [.cl (.slg 3 l),.cl (.int .i64 lo),.cl (.int .i64 hi),.cl (.fn (.func 99) [] [])],[]=>some (qfx l,.leaf (.ret [.cl (.slg 1 (qtl lo hi l)),.cl (.bool (qtk lo hi l))] []))
 | _,_=>none
def xbo8:Nat->Ct:=tb 99 q3k q3b
def xbp2:Ct:=fun
 | [.cl (.agg [.int .i64 t,.sli .u8 b,.slg 3 k]),.cl (.int .i64 g),.cl (.fn (.func 99) [] [])],[]=>some (isS [.int .i64 t,.sli .u8 b,.slg 3 k],.leaf (.ret [.cl (.slg 1 (lpL g t b k)),.cl (.bool (lpB g t b k))] []))
 | _,_=>none
def xbpe:Nat->Ct:=tb 141 xbpw xbo8
def q3i:Ct:=fun
 | [.cl (.agg [.int .i64 t,.sli .u8 b,.slg 3 k])],[]=>some (isS [.int .i64 t,.sli .u8 b,.slg 3 k],.leaf (.ret [.cl (.int .i64 ((qsv t b k).1)),.cl (.bool ((qsv t b k).2))] []))
 | _,_=>none
def q2z:Nat->Ct:=tb 98 xbp2 xbpe
def q3j:Ct:=fun
 | [.cl (.agg [.int .i64 t,.sli .u8 b,.slg 3 k])],[]=>some (isS [.int .i64 t,.sli .u8 b,.slg 3 k],.leaf (.ret [.cl (.agg [.int .i64 ((qn1 t b k).1),.slg 1 ((qn1 t b k).2.1),.sli .u8 ((qn1 t b k).2.2.1)]),.cl (.bool ((qn1 t b k).2.2.2))] []))
 | _,_=>none
def q3a:Nat->Ct:=tb 100 q3i q2z
def xbpv:Ct:=fun
 | [.cl (.slg 3 l),.cl (.int .i64 lo),.cl (.int .i64 hi),.cl (.fn (.func 58) [] [])],[]=>some (qfx l,.leaf (.ret [.cl (.slg 3 (qtc lo hi l)),.cl (.bool (qtb lo hi l))] []))
 | _,_=>none
def xbo7:Nat->Ct:=tb 58 q3j q3a
def xbp1:Ct:=fun
 | [.cl (.agg [.int .i64 t,.sli .u8 b,.slg 3 k]),.cl (.int .i64 g),.cl (.fn (.func 58) [] [])],[]=>some (isS [.int .i64 t,.sli .u8 b,.slg 3 k],.leaf (.ret [.cl (.slg 3 (lmL g t b k)),.cl (.bool (lmB g t b k))] []))
 | _,_=>none
def xbpd:Nat->Ct:=tb 97 xbpv xbo7
def qws:Ct:=fun
 | [.cl (.agg [.int .i64 t,.sli .u8 b,.slg 3 k])],[]=>some (isS [.int .i64 t,.sli .u8 b,.slg 3 k],.leaf (.ret [.cl (.slg 3 (lmL 48 t b k)),.cl (.bool (lmB 48 t b k))] []))
 | _,_=>none
def qwk:Nat->Ct:=tb 57 xbp1 xbpd
def xbpt:Ct:=fun
 | [.cl (.slg 3 l),.cl (.int .i64 lo),.cl (.int .i64 hi),.cl (.fn (.func 29) [] [])],[]=>some (qfx l,.leaf (.ret [.cl (.slg 1 (qng lo hi l)),.cl (.bool (qnf lo hi l))] []))
 | _,_=>none
def xbo5:Nat->Ct:=tb 29 qws qwk
def xbpz:Ct:=fun
 | [.cl (.agg [.int .i64 t,.sli .u8 b,.slg 3 k]),.cl (.int .i64 g),.cl (.fn (.func 29) [] [])],[]=>some (isS [.int .i64 t,.sli .u8 b,.slg 3 k],.leaf (.ret [.cl (.slg 1 (lcL g t b k)),.cl (.bool (lcB g t b k))] []))
 | _,_=>none
def xbpb:Nat->Ct:=tb 56 xbpt xbo5
def xbbx:Ct:=fun
 | [.cl (.agg [.int .i64 t,.sli .u8 b,.slg 3 k])],[]=>some (isS [.int .i64 t,.sli .u8 b,.slg 3 k],.leaf (.ret [.cl (.int .i64 ((qby t b k).1)),.cl (.bool (decide ((qby t b k).2.2=0)))] []))
 | _,_=>none
def xbbj:Nat->Ct:=tb 28 xbpz xbpb
def xbps:Ct:=fun
 | [.cl (.slg 3 l),.cl (.int .i64 lo),.cl (.int .i64 hi),.cl (.fn (.func 27) [] [])],[]=>some (qfx l,.leaf (.ret [.cl (.sli .i64 (q0v lo hi l)),.cl (.bool (q0t lo hi l))] []))
 | _,_=>none
def xbo4:Nat->Ct:=tb 27 xbbx xbbj
def xbpy:Ct:=fun
 | [.cl (.agg [.int .i64 t,.sli .u8 b,.slg 3 k]),.cl (.int .i64 g),.cl (.fn (.func 27) [] [])],[]=>some (isS [.int .i64 t,.sli .u8 b,.slg 3 k],.leaf (.ret [.cl (.sli .i64 (laL g t b k)),.cl (.bool (laB g t b k))] []))
 | _,_=>none
def xbpa:Nat->Ct:=tb 54 xbps xbo4
def KEParse:Ct:=fun
 | [.cl (.sli .u8 b)],[]=>some (qad b&&b6k b,.leaf (.ret [.cl (.agg [.sli .i64 ((qjp b).1),.slg 1 ((qjp b).2.1)]),.cl (.int .i64 ((qjp b).2.2))] []))
 | _,_=>none
def BEParse:Nat->Ct:=tb 26 xbpy xbpa
def KR4Same:Ct:=fun
 | [.cl (.slg 1 a),.cl (.slg 1 b)],[]=>some (qux a&&qux b,.leaf (.ret [.cl (.bool (qps a b))] []))
 | _,_=>none
def BR4Same:Nat->Ct:=tb 8 KEParse BEParse
def KR38Same:Ct:=fun
 | [.cl (.slg 1 a),.cl (.slg 1 b)],[]=>some (quc a&&quc b,.leaf (.ret [.cl (.bool (qm2 a b))] []))
 | _,_=>none
def BR38Same:Nat->Ct:=tb 62 KR4Same BR4Same
def KRESame:Ct:=fun
 | [.cl (.agg [.sli .i64 g,.slg 1 c]),.cl (.agg [.sli .i64 h,.slg 1 e])],[]=>some (qh1 g&&(qb0 c&&qb0 e),.leaf (.ret [.cl (.bool (xbdm g c h e))] []))
 | _,_=>none
def BRESame:Nat->Ct:=tb 33 KR38Same BR38Same
def KWAwake:Ct:=fun
 | [],[]=>some (true,.leaf (.ret [.cl (.bool true)] []))
 | _,_=>none
def BWAwake:Nat->Ct:=tb 10 KRESame BRESame
def KRMarked:Ct:=fun
 | [.cl (.agg [.int .i64 t,.sli .u8 b,.slg 3 k])],[]=>some (isS [.int .i64 t,.sli .u8 b,.slg 3 k],.leaf (.ret [.cl (.agg [.int .i64 ((mkd t b k).1),.slg 1 ((mkd t b k).2.1),.sli .u8 ((mkd t b k).2.2)])] []))
 | _,_=>none
def BRMarked:Nat->Ct:=tb 7 KWAwake BWAwake
def KREParse:Ct:=fun
 | [.cl (.sli .u8 b)],[]=>some (qad b&&b6k b,.leaf (.ret [.cl (.agg [.sli .i64 ((qtr b).1),.slg 1 ((qtr b).2.1)]),.cl (.int .i64 ((qtr b).2.2))] []))
 | _,_=>none
def BREParse:Nat->Ct:=tb 31 KRMarked BRMarked
def SWReads:List V->List Obj->Tree:=fun xs obs=>match xs,obs with
 | [.cl (.sli .u8 b)],[]=>.leaf (.ret [.cl (.bool true)] [])
 | _,_=>.fail
def qzl:List V->List Obj->Bool:=fun xs obs=>match xs,obs with
 | [.cl (.sli .u8 b)],[]=>qo3 b
 | _,_=>false
def BWReads:Nat->Ct:=tb 9 KREParse BREParse
end
end Go.Proofs.YtoaakappnhemiaaGreatDoorA
