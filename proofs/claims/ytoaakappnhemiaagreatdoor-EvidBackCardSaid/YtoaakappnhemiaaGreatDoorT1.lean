/-
 Times as plain functions: what the stamp layer computes. Conditions: none.
-/
import Derived.Test.YtoaakappnhemiaaGreatDoorK3
import Derived.Lib.ItoaMem
import Derived.Lib.ParseIntB
import Derived.Lib.Split
import Derived.Lib.CountLaws
import Derived.Lib.IndexBytes
import Derived.Lib.Join
import Derived.Lib.LaidTab
import Derived.Test.YtoaakappnhemiaaGreatDoorProg
set_option linter.unusedVariables false
set_option linter.unusedSimpArgs false
set_option maxRecDepth 100000
set_option linter.defProp false
namespace Go.Proofs.YtoaakappnhemiaaGreatDoorA
noncomputable section
abbrev cD{α:Type}(p:Prop)[Decidable p](x y:α):α:=cond (decide p) x y
abbrev zR(l:LV)(o:List (Option Obj)):OO:=some (.ret l o)
abbrev zvi(n:Int):V:=.cl (.int .i64 n)
abbrev zvl(l:LI):V:=.cl (.sli .u8 l)
abbrev zvg(l:LC):V:=.cl (.slg 3 l)
abbrev zvb(b:Bool):V:=.cl (.bool b)
abbrev zB(b:Bool):OO:=some (.ret [.cl (.bool b)] [])
abbrev zI(n:Int):OO:=some (.ret [.cl (.int .i64 n)] [])
def stOk(y:Int):Bool:=decide (1<=y/\y<=20000)
def qne(y:Int):Bool:=decide (y % 4=0/\(y % 100≠0\/y % 400=0))
def qj1(y m:Int):Int:=if m=2 then(if qne y=true then 29 else 28) else if m=4\/m=6\/m=9\/m=11 then 30 else 31
def qqv(y m d h i s:Int):Bool:=decide ((1<=y/\y<=9999/\1<=m/\m<=12)/\(1<=d/\d<=qj1 y m)/\0<=h/\h<24/\0<=i/\i<60/\0<=s/\s<60)
def qkc(y m:Int):Int:=if 1<=y/\y<=9999/\1<=m/\m<=12 then qj1 y m else 0
def qff(y:Int):Int:=(y - 1)*365+(y - 1)/ 4 - (y - 1)/ 100+(y - 1)/ 400
def qey(y m:Int):Int:=if m<=2 then 31*(m - 1) else(153*(m - 3)+2)/ 5+59+(if qne y=true then 1 else 0)
def qvl(y m d h i s:Int):Int:= -62135596800+(qff y+qey y m+(d - 1))*86400+(h*3600+i*60+s)
def q6m(t:Int):Bool:=decide (-9223372036854775808<=t/\t<=9223372036854775807)
def qp6(a b:Int):Int:=if a<48\/57<a\/b<48\/57<b then -100000 else 10*(a - 48)+(b - 48)
def qge(s:ByteArray):Int:=qp6 (bget s 0) (bget s 1)
def qwy:LI->Int->Int
 | [],n=>n
 | c::r,n=>if c<48\/57<c then -1 else qwy r (n*10+(c - 48))
def qet(s:ByteArray):Int:=qwy (bytesOf s) 0
def qp7(s:ByteArray):Int×Int:=
 if s.size=15/\bget s 14=90 then
  let y:=qp6 (bget s 2) (bget s 3)+100*qp6 (bget s 0) (bget s 1);let m:=qp6 (bget s 4) (bget s 5);let d:=qp6 (bget s 6) (bget s 7);let h:=qp6 (bget s 8) (bget s 9);let i:=qp6 (bget s 10) (bget s 11);let c:=qp6 (bget s 12) (bget s 13)
  if qqv y m d h i c=true then(qvl y m d h i c,0) else(0,1)
 else(0,1)
def xbkd(x:Int):Bool:=decide (0<=x/\x<=255)
def qad(b:LI):Bool:=shut (decide (b.length<=1000000)&&b.all xbkd)
def qpd(b:LI):Bool:=shut (b.all xbkd)
def qdu(b:LI):Bool:=shut (decide (b.length<=100000000))
def u32Ok(n:Int):Bool:=shut (decide (0<=n/\n<=4294967295))
def qc1(n:Int):Bool:=shut (decide (0<=n/\n<=1000))
def qny(a b:LI):Bool:=decide (a=b)
def qcr(a b:LI):Bool:=shut (qny a b)
def qbr:LI->LI->Int
 | [],[]=>0
 | [],_::_=> -1
 | _::_,[]=>1
 | x::a,y::b=>if x<y then -1 else if y<x then 1 else qbr a b
def qhr(a b:LI):Int:=shut (qbr a b)
def qe9(a b:LI):Bool:=shut (decide (qbr a b<0))
def qar(b:LI):Int:=b.foldl (fun n x=>n*256+x) 0
def qhy(b:LI):Int:=shut (qar b)
def qav(tag:Int):Bool:=decide (tag=48\/tag=49\/(160<=tag/\tag<=190))
def qbn(tag:Int):Bool:=shut (qav tag)
def qbg(tag:Int):Bool:=decide (tag=1\/tag=2\/tag=3\/tag=4\/tag=5\/tag=6\/tag=12\/tag=24)|| (qav tag|| decide (128<=tag/\tag<=158))
def qep(tag:Int):Bool:=shut (qbg tag)
def qau(n:Int):Int:=if n<128 then 1 else if n<256 then 2 else if n<65536 then 3 else 4
def qcn(n:Int):Int:=shut (qau n)
def qdt:LI->Bool
 | []=>false
 | [_]=>true
 | x::y::_=> !(decide (x=0/\y<128))&& !(decide (x=255/\128<=y))
def qgk(b:LI):Bool:=shut (qdt b)
def qq7:LI->Bool
 | []=>false
 | [x]=>decide (x=0)
 | x::y::r=>decide (x<=7)&&decide ((y::r).getLast (by simp) % 2 ^ x.toNat=0)
def qjb(b:LI):Bool:=shut (qq7 b)
def u8At(l:LI)(k:Nat):Bool:=match l[k]? with|some x=>decide (128<=x/\x<192)|none=>false
def u8Cont(b:LI)(i:Int):Bool:=shut (u8At b i.toNat)
def qeg:LI->Int
 | []=>0
 | c::r=>
  if c<128 then 1
  else if 194<=c/\c<=223/\u8At r 0=true then 2
  else if 224<=c/\c<=239/\u8At r 0=true/\u8At r 1=true/\(c=224->160<=r.headD 0)/\(c=237->r.headD 0<160) then 3
  else if 240<=c/\c<=244/\u8At r 0=true/\u8At r 1=true/\u8At r 2=true/\(c=240->144<=r.headD 0)/\(c=244->r.headD 0<144) then 4
  else 0
def u8Rune(b:LI)(i:Int):Int:=shut (qeg (b.drop i.toNat))
def qj2:Nat->LI->Bool
 | 0,_=>true
 | n+1,l=>if l=[] then true else if qeg l=0 then false else qj2 n (l.drop (qeg l).toNat)
def qdd(l:LI):Bool:=qj2 l.length l
def u8Valid(b:LI):Bool:=shut (qdd b)
def xbqd(l:LI):Int:=
 ((l.getD 0 0).toNat||| (l.getD 1 0).toNat*2 ^ 8||| (l.getD 2 0).toNat*2 ^ 16||| (l.getD 3 0).toNat*2 ^ 24||| (l.getD 4 0).toNat*2 ^ 32||| (l.getD 5 0).toNat*2 ^ 40||| (l.getD 6 0).toNat*2 ^ 48||| (l.getD 7 0).toNat*2 ^ 56:Nat)
def u8Word(b:LI):Int:=shut (xbqd b)
def qh3:LI:=List.replicate 128 240++List.replicate 66 241++List.replicate 30 2++[19]++List.replicate 12 3++[35]++List.replicate 2 3++[52]++List.replicate 3 4++[68]++List.replicate 11 241
def qmg:LC:=([(128,191),(160,191),(128,159),(144,191),(128,143)]++List.replicate 11 (0,0):List (Int×Int)).map fun p=>.agg [.int .u8 p.1,.int .u8 p.2]
def u8First:LI:=shut qh3
def u8Accept:LC:=shut qmg
def qbx:LI->Bool
 | x::y::r=>decide (r.length<=18)&&(decide (x<2/\y<40)|| decide (x=2/\y<=4294967215))
 | _=>false
def qk8(o:LI):Bool:=shut (qbx o)
def qb5(n:Int):LI:=if n<80 then[n/ 40,n % 40] else[2,n - 80]
def qhc(n:Int):LI:=shut (qb5 n)
def qb9:Int->Int->LI->Int×Int
 | _,_,[]=>(0,0)
 | n,i,c::r=>if(i=0/\c=128)\/33554431<n then(0,0) else if c<128 then(n*128+c,i+1) else qb9 (n*128+(c - 128)) (i+1) r
def qap(b:LI):Int×Int:=qb9 0 0 b
def qgm(b:LI):Int×Int:=shut (qap b)
def qdz:Nat->LI->List (Int×Bool)
 | 0,_=>[]
 | n+1,b=>if b=[] then[] else if(qap b).2=0 then[((qap b).1,false)] else((qap b).1,true)::qdz n (b.drop (qap b).2.toNat)
def qdb(b:LI):List (Int×Bool):=qdz b.length b
def qwe(b:LI):List (Int×Bool):=shut (qdb b)
def qt7(l:List (Int×Bool)):List LC:=shut (l.map fun p=>[.int .u32 p.1,.bool p.2])
def qu6:List (Int×Bool)->LI->Option LI
 | [],o=>some o
 | (n,ok)::r,o=>if ok=false\/20<o.length then none else if o=[] then qu6 r (qb5 n) else qu6 r (o++[n])
def qcw(b:LI):LI×Int:=match qu6 (qdb b) [] with
 | some o=>if qbx o=true then(o,0) else([],5)
 | none=>([],5)
def qcl(b:LI):LI×Int:=shut (qcw b)
def qbj(tag:Int)(b:LI):Bool:=
 if tag=1 then decide (b=[0]\/b=[255])
 else if tag=2 then qdt b
 else if tag=3 then qq7 b
 else if tag=5 then decide (b=[])
 else if tag=6 then decide ((qcw b).2=0)
 else if tag=12 then qdd b
 else if tag=24 then decide ((qp7 (xbjy b)).2=0)
 else true
def qdn(tag:Int)(b:LI):Bool:=shut (qbj tag b)
def qac:LI->Int×Int
 | []=>(0,0)
 | c::t=>if c<128 then(c,1) else if c=128\/131<c\/(t.length:Int)<c - 128 then(0,0)
  else if t.headD 0=0\/qar (t.take (c - 128).toNat)<128 then(0,0) else(qar (t.take (c - 128).toNat),1+(c - 128))
def qhm(b:LI):Int×Int:=shut (qac b)
def qqp(l:LI):Bool:=shut (!(decide ((qac l).2=0)))
def qfc(l:LI):Int×LI:=shut ((qac l).1,l.drop (qac l).2.toNat)
def qlb:LI->LI
 | []=>[]
 | c::t=>if c=128\/131<c then t else t.drop (c - 128).toNat
def qhx(l:LI):LI:=shut (qlb l)
abbrev Nd:=Int×LI×LC
def nd0:Nd:=(0,[],[])
def ndCV(x:Nd):CV:=.agg [.int .i64 x.1,.sli .u8 x.2.1,.slg 3 x.2.2]
def qa8:List LI->Bool
 | a::b::r=>decide (qbr a b<=0)&&qa8 (b::r)
 | _=>true
def rowB(l:LI):Bool:=decide (l.length<=1000000)&&l.all xbkd
def xb2j:CV->Bool
 | .sli .u8 l=>rowB l
 | _=>false
def qhj(l:LC):Bool:=shut (decide (l.length<=1000000)&&l.all xb2j)
def qbp(l:LC):Bool:=shut (qa8 (l.map qb8))
def qcs(l:LC):LI:=shut (l.flatMap qb8)
def qcm(f:LI->Int×Nd×Int):Nat->LI->Int×List Nd×List LI
 | 0,_=>(0,[],[])
 | m+1,b=>if b=[] then(0,[],[]) else
  if(f b).1=0 then
   let p:=qcm f m (b.drop (f b).2.2.toNat)
   (p.1,(f b).2.1::p.2.1,b.take (f b).2.2.toNat::p.2.2)
  else((f b).1,[],[])
def qas:Nat->LI->Int×Nd×Int
 | 0,_=>(3,nd0,0)
 | n+1,b=>match b with
  | []=>(1,nd0,0)
  | t::r=>if qbg t=false then(4,nd0,0)
   else if(qac r).2=0\/(r.length:Int) - (qac r).2<(qac r).1 then(1,nd0,0)
   else
    let inside:=(r.drop (qac r).2.toNat).take (qac r).1.toNat;let used:=1+(qac r).2+(qac r).1
    if qav t=false then(if qbj t inside=true then(0,(t,inside,[]),used) else(5,nd0,0))
    else
     let p:=qcm (qas n) inside.length inside
     if p.1=0 then(if t=49/\qa8 p.2.2=false then(6,nd0,0) else(0,(t,[],p.2.1.map ndCV),used)) else(p.1,nd0,0)
def qfb(b:LI)(d:Int):Nd×Int×Int:=shut (let p:=qas d.toNat b;if p.1=0 then(p.2.1,p.2.2,0) else(nd0,0,p.1))
def qzj(b:LI):Nd×Int:=let p:=qas 32 b;if p.1=0 then(if p.2.2<b.length then(nd0,7) else(p.2.1,0)) else(nd0,p.1)
def qan(b:LI):Nd×Int:=shut (qzj b)
def qka(l:LI)(d:Int):LI:=
 if d<=0 then l else match l with
  | []=>[]
  | t::r=>if qbg t=false then r
   else if(qac r).2=0 then qlb r
   else if(r.length:Int) - (qac r).2<(qac r).1 then r.drop (qac r).2.toNat
   else r.drop ((qac r).2+(qac r).1).toNat
def qmk(l:LI)(d:Int):Int×Nd×LI:=shut ((qas d.toNat l).1,(qas d.toNat l).2.1,qka l d)
def qbe(tag:Int)(b:LI)(d:Int):Int×Nd:=shut (
 let p:=qcm (qas (d - 1).toNat) b.length b
 if p.1=0 then(if tag=49/\qa8 p.2.2=false then(6,nd0) else(0,(tag,[],p.2.1.map ndCV))) else(p.1,nd0))
def isNf:Nat->LC->Bool
 | 0,_=>false
 | n+1,[.int .i64 _,.sli .u8 b,.slg 3 l]=>decide (b.length<=100000000)&&(decide (l.length<=100000000)&&l.all fun c=>match c with|.agg x=>isNf n x|_=>false)
 | _+1,_=>false
def isN(l:LC):Bool:=shut (@decide (∃n,isNf n l=true) (ya _))
def q2a(n:Int):Bool:=shut (decide (0<=n/\n<=100000000))
def qa6:LI:=shut []
def q5v(n:Int):Bool:=shut (decide (0<=n/\n<=30000))
def qck(tag n:Int):LI:=tag::(if n<128 then[n] else if n<256 then[129,n] else if n<65536 then[130,n/ 256,n % 256] else[131,n/ 65536,n/ 256 % 256,n % 256])
def qch(tag n:Int):LI:=shut (qck tag n)
def qhg(tag n:Int):Bool:=shut (decide ((0<=tag/\tag<=255)/\0<=n/\n<16777216))
def qmi(l:LC):Bool:=shut (decide (l.length<=1000000)&&(l.all xb2j&&decide ((l.flatMap qb8).length<=1000000)))
def isTf:Nat->LC->Bool
 | 0,_=>false
 | n+1,[.int .i64 _,.sli .u8 b,.slg 3 l]=>b.all xbkd&&l.all fun c=>match c with|.agg x=>isTf n x|_=>false
 | _+1,_=>false
def qee:Nat->LC->Nat
 | n+1,[.int .i64 _,.sli .u8 b,.slg 3 l]=>1+b.length+(l.map fun c=>qee n (cell1 c)).sum
 | _,_=>0
def okF:Nat->Nat->LC->Bool
 | n+1,d+1,[.int .i64 t,.sli .u8 b,.slg 3 l]=>qbg t&&(if qav t=true then decide (b=[])&&l.all fun c=>okF n d (cell1 c) else decide (l=[])&&qbj t b)
 | _,_,_=>false
def qah:Nat->LC->LI×Bool
 | n+1,[.int .i64 t,.sli .u8 b,.slg 3 l]=>
  if qav t=true then
   let ks:=l.map fun c=>qah n (cell1 c);let bs:=ks.map (·.1)
   (qck t bs.flatten.length++bs.flatten,ks.all (·.2)&&(!(decide (t=49))|| qa8 bs))
  else(qck t b.length++b,true)
 | _,_=>([],false)
def rkOf(a:LC):Nat:=@dite _ (∃n,isTf n a=true) (ya _) (fun h=>Classical.choose h) (fun _=>0)
def q2k(a:LC)(deep:Int):Int:=shut (if okF (rkOf a) deep.toNat a=true then((qah (rkOf a) a).1.length:Int) else -1)
def isSr(n:Nat)(a:LC):Bool:=shut (isTf n a&&(decide (qee n a<=30000)))
def isS(a:LC):Bool:=shut (@decide (∃n,isTf n a=true/\qee n a<=30000) (ya _))
def isWr(n:Nat)(a:LC):Bool:=shut (@decide (isTf n a=true/\qee n a<=30000/\∃d,okF n d a=true) (ya _))
def isW(a:LC):Bool:=shut (@decide (∃n,isTf n a=true/\qee n a<=30000/\∃d,okF n d a=true) (ya _))
def qef(a:LC):LI×Bool:=shut (if(qah (rkOf a) a).2=true then((qah (rkOf a) a).1,true) else([],false))
def qhb(a:LC)(deep:Int):LI×Bool:=shut (if okF (rkOf a) deep.toNat a=true/\(qah (rkOf a) a).2=true then((qah (rkOf a) a).1,true) else([],false))
def qbb(a:LC):LI×Int:=shut (if okF (rkOf a) 32 a=true/\(qah (rkOf a) a).2=true then((qah (rkOf a) a).1,0) else([],1))
def qrr(a:LC):Bool:=shut (decide (okF (rkOf a) 32 a=true/\(qah (rkOf a) a).2=true))
def u32B(n:Int):Bool:=decide (0<=n/\n<=4294967295)
def qvm(o:LI):Bool:=shut (decide (o.length<=1000)&&o.all u32B)
def u64Ok(n:Int):Bool:=shut (decide (0<=n/\n<=18446744073709551615))
def gHi:Nat->Int->LI
 | 0,_=>[]
 | f+1,n=>if n=0 then[] else gHi f (n/ 128)++[128+n % 128]
def qaw(n:Int):LI:=gHi 5 (n/ 128)++[n % 128]
def qbv(n:Int):LI:=shut (qaw n)
def qco(o:LI):LI:=if qbx o=true then(match o with|x::y::r=>qaw (40*x+y)++r.flatMap qaw|_=>[]) else[]
def qay(o:LI):LI:=shut (qco o)
def qcg:LC:=shut []
def num8(b:LI):Bool:=shut (decide (b.length<=8)&&b.all xbkd)
def vLeC(n:Int):LI:=[n % 256,n/ 256 % 256,n/ 65536 % 256,n/ 16777216 % 256,n/ 4294967296 % 256,n/ 1099511627776 % 256,n/ 281474976710656 % 256,n/ 72057594037927936 % 256]
def vLe(n:Int):LI:=shut (vLeC n)
def vBe(n:Int):LI:=shut (vLeC n).reverse
def vRev(l:LI):LI:=shut l.reverse
def xb2i(l:LI):Bool:=shut (decide (l.length=8))
def q6s:LI->LI
 | a::b::r=>if(a=0/\b<128)\/(a=255/\128<=b) then q6s (b::r) else a::b::r
 | l=>l
def xb4r(n:Int):LI:=q6s (vLeC (n % 18446744073709551616)).reverse
def vInt(n:Int):LI:=shut (xb4r n)
def xbjz(b:LI):Int:=if 128<=b.headD 0 then qar b - 256 ^ b.length else qar b
def qp8(b:LI):Int×Int:=if 8<b.length then(0,8) else(xbjz b,0)
def qqx(b:LI):Int×Int:=shut (qp8 b)
def qr2(g t:Int)(b:LI)(k:LC):Int:=if t≠g then 4 else if k.length≠0\/qbj g b=false then 5 else 0
def qb6(t:Int)(b:LI)(k:LC):Int×Int:=shut (if qr2 2 t b k=0 then qp8 b else(0,qr2 2 t b k))
def qgp(t:Int)(b:LI)(k:LC):LI×Int:=shut (if qr2 6 t b k=0 then qcl b else([],qr2 6 t b k))
def qa2(t:Int)(b:LI)(k:LC):LI×Int:=shut (if qr2 4 t b k=0 then(b,0) else([],qr2 4 t b k))
def xbno(g:Int)(b:LI):Int×LI×Int:=if qbj g b=true then(g,b,0) else(0,[],5)
def qgq(g:Int)(b:LI):Int×LI×Int:=shut (xbno g b)
def qty(g:Int)(b:LI):Bool:=shut (decide ((g=12\/g=6\/g=24)/\b.length<=2000)&&b.all xbkd)
def idOk(o:LI):Bool:=shut (decide (o.length<=50)&&o.all u32B)
def xb8v(g:Int)(l:LC):Int×LC×Int:=if 0<=g/\g<=30 then(160+g,l,0) else(0,[],8)
def vBox(g:Int)(l:LC):Int×LC×Int:=shut (xb8v g l)
def q6t(g t:Int)(b:LI)(k:LC):LC×Int:=if t≠g\/qav g=false then([],4) else if b.length≠0 then([],5) else(k,0)
def qb0(g t:Int)(b:LI)(k:LC):LC×Int:=shut (q6t g t b k)
def qbw(l:LC):Bool:=shut (decide (l.length<=100000000))
def xbdt:CV:=.agga 11 6 [.agg [.int .i64 1,.int .i64 3,.int .i64 1,.int .i64 0,.int .i64 1,.int .i64 1],.agg [.int .i64 4,.int .i64 2,.int .i64 1,.int .i64 0,.int .i64 8,.int .i64 2],.agg [.int .i64 6,.int .i64 2,.int .i64 1,.int .i64 0,.int .i64 11,.int .i64 1],.agg [.int .i64 11,.int .i64 3,.int .i64 2,.int .i64 1,.int .i64 17,.int .i64 1],.agg [.int .i64 33,.int .i64 2,.int .i64 2,.int .i64 5,.int .i64 1,.int .i64 1],.agg [.int .i64 41,.int .i64 1,.int .i64 2,.int .i64 4,.int .i64 17,.int .i64 1],.agg [.int .i64 51,.int .i64 3,.int .i64 3,.int .i64 2,.int .i64 1,.int .i64 1],.agg [.int .i64 61,.int .i64 3,.int .i64 4,.int .i64 4,.int .i64 28,.int .i64 1],.agg [.int .i64 71,.int .i64 3,.int .i64 5,.int .i64 3,.int .i64 5,.int .i64 20],.agg [.int .i64 81,.int .i64 3,.int .i64 6,.int .i64 3,.int .i64 2,.int .i64 20],.agg [.int .i64 91,.int .i64 3,.int .i64 7,.int .i64 3,.int .i64 6,.int .i64 20]]
def qcx:List (Int×Int×LI):=[(1,1,[2,16,840,1,101,3,4,2,1]),
 (2,1,[2,16,840,1,101,3,4,2,2]),
 (3,1,[2,16,840,1,101,3,4,2,3]),
 (4,1,[2,16,840,1,101,3,4,2,8]),
 (5,1,[2,16,840,1,101,3,4,2,10]),
 (6,1,[2,16,840,1,101,3,4,2,11]),
 (7,1,[2,16,840,1,101,3,4,2,12]),
 (11,2,[2,16,840,1,101,3,4,3,17]),
 (12,2,[2,16,840,1,101,3,4,3,18]),
 (13,2,[2,16,840,1,101,3,4,3,19]),
 (33,2,[2,999,1]),
 (34,2,[2,999,2]),
 (41,2,[1,2,840,113549,1,9,16,3,17]),
 (51,3,[2,16,840,1,101,3,4,4,1]),
 (52,3,[2,16,840,1,101,3,4,4,2]),
 (53,3,[2,16,840,1,101,3,4,4,3]),
 (61,4,[1,2,840,113549,1,9,16,3,28]),
 (62,4,[1,2,840,113549,1,9,16,3,29]),
 (63,4,[1,2,840,113549,1,9,16,3,30]),
 (71,5,[2,16,840,1,101,3,4,1,5]),
 (72,5,[2,16,840,1,101,3,4,1,25]),
 (73,5,[2,16,840,1,101,3,4,1,45]),
 (81,6,[2,16,840,1,101,3,4,1,2]),
 (82,6,[2,16,840,1,101,3,4,1,22]),
 (83,6,[2,16,840,1,101,3,4,1,42]),
 (91,7,[2,16,840,1,101,3,4,1,6]),
 (92,7,[2,16,840,1,101,3,4,1,26]),
 (93,7,[2,16,840,1,101,3,4,1,46]),
 (21,2,[2,16,840,1,101,3,4,3,20]),
 (22,2,[2,16,840,1,101,3,4,3,26]),
 (23,2,[2,16,840,1,101,3,4,3,21]),
 (24,2,[2,16,840,1,101,3,4,3,27]),
 (25,2,[2,16,840,1,101,3,4,3,22]),
 (26,2,[2,16,840,1,101,3,4,3,28]),
 (27,2,[2,16,840,1,101,3,4,3,23]),
 (28,2,[2,16,840,1,101,3,4,3,29]),
 (29,2,[2,16,840,1,101,3,4,3,24]),
 (30,2,[2,16,840,1,101,3,4,3,30]),
 (31,2,[2,16,840,1,101,3,4,3,25]),
 (32,2,[2,16,840,1,101,3,4,3,31])]
def qqa:List LC:=shut (qcx.map fun e=>[.agg [.int .i64 e.1,.int .i64 e.2.1,.sli .u32 e.2.2]])
def qaf(g:Int):Int×Int×LI:=(qcx.find? fun e=>decide (e.1=g)).getD (0,0,[])
def qa1(g:Int):Int×Int×LI:=shut (qaf g)
def xbds(o:LI):Int:=((qcx.find? fun e=>decide (e.2.2=o)).getD (0,0,[])).1
def qhf(o:LI):Int:=shut (xbds o)
def qj5(g h:Int):LI:=shut [2,16,840,1,101,3,4,g,h]
def qvq(o:LI):LI:=shut ([1,2,840,113549,1]++o)
def qb3(g:Int):Int:=if g=6 then 16 else if g=7 then 12 else 0
def qj7(g:Int):Int:=shut (qb3 g)
def qbm(t:Int)(b:LI)(k:LC):CV:=.agg [.int .i64 t,.sli .u8 b,.slg 3 k]
def qez(o:LI):CV:=qbm (qgq 6 (qay o)).1 (qgq 6 (qay o)).2.1 []
def qga(g:Int)(b:LI):Int×LC×Int:=
 if(qaf g).2.1=0 then(0,[],9) else if(b.length:Int)≠qb3 (qaf g).2.1 then(0,[],14)
 else(48,qez (qaf g).2.2::(if(qaf g).2.1=6 then[qbm 4 b []] else if(qaf g).2.1=7 then[qbm 48 [] [qbm 4 b [],qbm 2 (vInt 16) []]] else[]),0)
def qbs(g:Int)(b:LI):Int×LC×Int:=shut (qga g b)
abbrev nT(c:CV):Int:=qf9 ((cell1 c).headD .nili)
abbrev nB(c:CV):LI:=qb8 ((cell1 c).tail.headD .nili)
abbrev nK(c:CV):LC:=qbl ((cell1 c).tail.tail.headD .nili)
def algB(g:Int)(x:CV):LI×Bool:=((qa2 (nT x) (nB x) (nK x)).1,decide ((qa2 (nT x) (nB x) (nK x)).2=0)&&decide (((qa2 (nT x) (nB x) (nK x)).1.length:Int)=qb3 g))
def xb5n(g:Int)(q p:CV):LI×Bool:=if ¬(qb6 (nT q) (nB q) (nK q)).2=0 then([],false) else if ¬(qb6 (nT q) (nB q) (nK q)).1=16 then([],false) else algB g p
def algG(g:Int)(two:LC):LI×Bool:=if ¬(two.length:Int)=2 then([],false) else xb5n g (two.getD 1 .nili) (two.headD .nili)
def algH(g:Int)(x:CV):LI×Bool:=if g=7 then(if ¬(qb0 48 (nT x) (nB x) (nK x)).2=0 then([],false) else algG g (qb0 48 (nT x) (nB x) (nK x)).1) else algB g x
def qpa(g:Int)(l:LC):LI×Bool:=
 if qb3 g=0 then([],decide ((l.length:Int)=0)) else if ¬(l.length:Int)=1 then([],false) else algH g (l.headD .nili)
def qcy(g:Int)(l:LC):LI×Bool:=shut (qpa g l)
def q6q(l:LC):Bool:=shut (@decide (∀c∈l, ∃t b k,c=.agg [.int .i64 t,.sli .u8 b,.slg 3 k]/\isS [.int .i64 t,.sli .u8 b,.slg 3 k]=true) (ya _))
def xbxq(v:LI×Int)(r:LC):Int×LI×Int:=if ¬v.2=0 then(0,[],1) else if qhf v.1=0 then(0,[],9) else if(qcy (qa1 (qhf v.1)).2.1 r).2=false then(0,[],1) else(qhf v.1,(qcy (qa1 (qhf v.1)).2.1 r).1,0)
def algR(ks:LC):Int×LI×Int:=if(ks.length:Int)=0 then(0,[],1) else xbxq (qgp (nT (ks.headD .nili)) (nB (ks.headD .nili)) (nK (ks.headD .nili))) (ks.drop 1)
def qsq(t:Int)(b:LI)(k:LC):Int×LI×Int:=if ¬(qb0 48 t b k).2=0 then(0,[],1) else algR (qb0 48 t b k).1
def qb2(t:Int)(b:LI)(k:LC):Int×LI×Int:=shut (qsq t b k)
def qoa:List LI:=[[0,0],[32,64],[48,128],[64,128],[32,136],[64,72],[32,168],[64,136]]
def qzd:CV:=.agga 8 2 (shut (qoa.map fun l=>.aggi 2 .i64 l))
def qa4(k:Int):Int:=if 0<=k/\k<8 then[0,32,48,64,32,64,32,64].getD k.toNat 0 else 0
def qqm(k:Int):Int:=shut (qa4 k)
abbrev mD(c:CV):Int:=qf9 ((cell1 c).headD .nili)
abbrev mT(c:CV):LC:=qbl ((cell1 c).tail.headD .nili)
abbrev mW(c:CV):LI:=qb8 ((cell1 c).tail.tail.headD .nili)
def qu5(d:Int)(t:LC)(w:LI):CV:=.agg [.int .i64 d,.slg 1 t,.sli .u8 w]
def xbcg(l:LC):Prop:=l.length<=1000000/\∀c∈l, ∃b,c=.sli .u8 b/\qad b=true
def xbch(t:LC):Prop:=t.length<=1000000/\∀c∈t, ∃l,c=.slg 1 l/\xbcg l
def isMk(c:CV):Prop:= ∃d t w,c=qu5 d t w/\xbch t/\qad w=true
def qod(l:LC):Prop:=l.length<=10000/\∀c∈l,isMk c
def qc0(l:LC):Prop:=l.length<=10000/\∀c∈l, ∃m,c=.slg 3 m/\qod m
def qvj(l:LC):Bool:=shut (@decide (xbcg l) (ya _))
def quw(l:LC):Bool:=shut (@decide (xbch l) (ya _))
def qps(l:LC):Bool:=shut (@decide (qod l) (ya _))
def qcb(l:LC):Bool:=shut (@decide (qc0 l) (ya _))
def qhh(l:LC):Bool:=shut (@decide (l.length<=1000000/\∀c∈l, ∃t b k,c=.agg [.int .i64 t,.sli .u8 b,.slg 3 k]/\isS [.int .i64 t,.sli .u8 b,.slg 3 k]=true) (ya _))
def qry(l:LC):Nat:=(l.map fun c=>1+(qb8 c).length).sum
def qml(l:LC):Nat:=(l.map fun c=>1+qry (qbl c)).sum
def qeh(l:LC):Nat:=(l.map fun c=>2+(mW c).length+qml (mT c)).sum
def qc6(l:LC):Nat:=(l.map fun c=>1+qeh (qbl c)).sum
def recO(l:LC):Bool:=shut (@decide (qc0 l/\qc6 l<=12100) (ya _))
def evB{α β:Type}(f:α->Option β)(lo hi:Int)(l:List α):Bool:=decide (lo<=(l.length:Int)/\(l.length:Int)<=hi)&&l.all fun c=>(f c).isSome
def evL{α β:Type}(f:α->Option β)(lo hi:Int)(l:List α):List β:=if evB f lo hi l=true then l.filterMap f else[]
def digF(s:Int)(c:CV):Option CV:=if((qb8 c).length:Int)=s then some (qbm 4 (qb8 c) []) else none
def dgB(s lo hi:Int)(l:LC):Bool:=shut (evB (digF s) lo hi l)
def dgL(s lo hi:Int)(l:LC):LC:=shut (evL (digF s) lo hi l)
def qj9(s:Int)(c:CV):Option CV:=if evB (digF s) 1 64 (qbl c)=true then some (qbm 48 [] (evL (digF s) 1 64 (qbl c))) else none
def xb14(s lo hi:Int)(l:LC):Bool:=shut (evB (qj9 s) lo hi l)
def xb15(s lo hi:Int)(l:LC):LC:=shut (evL (qj9 s) lo hi l)
def qmj(d:Int)(t:LC)(w:LI):LC:=
 qbm 160 [] [qez (qaf d).2.2]::((if t=[] then[] else[qbm 162 [] (evL (qj9 (qa4 d)) 0 20 t)])++[ndCV (qan w).1])
def qdg(d:Int)(t:LC)(w:LI):Bool:=decide ((qaf d).2.1=1)&&(decide ((qan w).2=0)&&evB (qj9 (qa4 d)) 0 20 t)
def q2j(d:Int)(t:LC)(w:LI):Bool:=shut (qdg d t w)
def q8j(d:Int)(t:LC)(w:LI):Int×LC:=shut (if qdg d t w=true then(48,qmj d t w) else(0,[]))
def q50(d:Int)(t:LC)(w:LI):Int×LC:=shut (if decide ((qaf d).2.1=1)&&evB (qj9 (qa4 d)) 0 20 t then(48,qmj d t w) else(0,[]))
def qkf(c:CV):Option CV:=if qdg (mD c) (mT c) (mW c)=true then some (qbm 48 [] (qmj (mD c) (mT c) (mW c))) else none
def qtz(lo hi:Int)(l:LC):Bool:=shut (evB qkf lo hi l)
def qt0(lo hi:Int)(l:LC):LC:=shut (evL qkf lo hi l)
def qd4(c:CV):Option CV:=if evB qkf 1 20 (qbl c)=true then some (qbm 48 [] (evL qkf 1 20 (qbl c))) else none
def qnm(lo hi:Int)(l:LC):Bool:=shut (evB qd4 lo hi l)
def qs0(lo hi:Int)(l:LC):LC:=shut (evL qd4 lo hi l)
def qol(l:LC):Int×LC:=shut (if evB qd4 1 10 l=true then(48,evL qd4 1 10 l) else(0,[]))
def qgg(out:LI)(d:Int):LI:=if d∈out then out else out++[d]
def xbbh(l:LC):LI:=l.map mD
def qek(l:LC):LI:=(l.flatMap fun c=>xbbh (qbl c)).foldl qgg []
def q1t(l:LC):LI:=shut (qek l)
def xbw6(l:LC):LC:=shut (l.flatMap qbl)
def hasI(l:LI)(d:Int):Bool:=shut (decide (d∈l))
def idxI(l:LI)(d:Int):Int:=shut (if d∈l then(l.idxOf d:Int) else -1)
def xbna(a b:LI):Bool:=shut (decide (a=b))
def qgc(l:LI):Bool:=shut (decide (l.length<=1000000000000000))
def qsn(d:Int):CV:=qbm (qga d []).1 [] (qga d []).2.1
def qvk(l:LI):Bool:=shut (decide (l.length<=1000000))
def q64(d:Int):Option CV:=if(qga d []).2.2=0 then some (qsn d) else none
def xbry(lo hi:Int)(l:LI):Bool:=shut (evB q64 lo hi l)
def xbny(lo hi:Int)(l:LI):LC:=shut (evL q64 lo hi l)
def qe4(g:LI)(c:LC):LC:=[qbm 2 (vInt 1) [],qbm 48 [] (g.map qsn),qbm 48 [] (evL qd4 1 10 c)]
def q1u(g:LI)(c:LC):Bool:=evB qd4 1 10 c&&decide (g=qek c)
def qmn(g:LI)(c:LC):Bool:=q1u g c&&qrr [.int .i64 48,.sli .u8 [],.slg 3 (qe4 g c)]
def evOk(g:LI)(c:LC):Bool:=shut (qmn g c)
def qfy(g:LI)(c:LC):Int×LC:=shut (if q1u g c=true then(48,qe4 g c) else(0,[]))
def qbd(g:LI)(c:LC):LI×Int:=if qmn g c=true then qbb [.int .i64 48,.sli .u8 [],.slg 3 (qe4 g c)] else([],1)
def b6w(b:LI):Bool:=shut (@decide (b.length<=6000\/¬(qan b).2=0\/∃g c,qc0 c/\qc6 c<=12100/\qmn g c=true/\b=(qbd g c).1) (ya _))
def qfj(g:LI)(c:LC):LI×Int:=shut (qbd g c)
def qou(c:CV):Option CV:=if(qa2 (nT c) (nB c) (nK c)).2=0 then some (.sli .u8 (qa2 (nT c) (nB c) (nK c)).1) else none
def qe0{β:Type}(f:CV->Option β)(g t:Int)(b:LI)(k:LC):Bool:=decide ((qb0 g t b k).2=0)&&(qb0 g t b k).1.all fun c=>(f c).isSome
def qcj{β:Type}(f:CV->Option β)(g t:Int)(b:LI)(k:LC):List β:=if qe0 f g t b k=true then(qb0 g t b k).1.filterMap f else[]
def q1j(lo hi:Int)(l:LC):Bool:=shut (evB qou lo hi l)
def q1l(lo hi:Int)(l:LC):LC:=shut (evL qou lo hi l)
def ldB(g t:Int)(b:LI)(k:LC):Bool:=shut (qe0 qou g t b k)
def ldL(g t:Int)(b:LI)(k:LC):LC:=shut (qcj qou g t b k)
def qc3(c:CV):Option CV:=if qe0 qou 48 (nT c) (nB c) (nK c)=true then some (.slg 1 (qcj qou 48 (nT c) (nB c) (nK c))) else none
def qt8(lo hi:Int)(l:LC):Bool:=shut (evB qc3 lo hi l)
def qt9(lo hi:Int)(l:LC):LC:=shut (evL qc3 lo hi l)
def lpB(g t:Int)(b:LI)(k:LC):Bool:=shut (qe0 qc3 g t b k)
def lpL(g t:Int)(b:LI)(k:LC):LC:=shut (qcj qc3 g t b k)
def qvc(t:Int)(b:LI)(k:LC):Int×Bool:=
 if(qb0 160 t b k).2≠0\/((qb0 160 t b k).1.length:Int)≠1 then(0,false) else
  let c:=(qb0 160 t b k).1.headD .nili
  (qhf (qgp (nT c) (nB c) (nK c)).1,decide ((qgp (nT c) (nB c) (nK c)).2=0))
def qtm(t:Int)(b:LI)(k:LC):Int×Bool:=shut (qvc t b k)
def qy0(c:CV):Int×Bool:=qvc (nT c) (nB c) (nK c)
def qoy(c:CV):LI×Int:=qbb [.int .i64 (nT c),.sli .u8 (nB c),.slg 3 (nK c)]
def qob(ks:LC):Int×LC×LI×Bool:=
 if(ks.length:Int)<2\/3<(ks.length:Int) then(0,[],[],false) else
  let x:=ks.headD .nili;let y:=ks.getD 1 .nili;let z:=ks.getD (ks.length - 1) .nili
  if(ks.length:Int)=3 then((qy0 x).1,qcj qc3 162 (nT y) (nB y) (nK y),(qoy z).1,(qe0 qc3 162 (nT y) (nB y) (nK y)&&decide (0<((qcj qc3 162 (nT y) (nB y) (nK y)).length:Int)))&&((qy0 x).2&&decide ((qoy z).2=0)))
  else((qy0 x).1,[],(qoy z).1,(qy0 x).2&&decide ((qoy z).2=0))
def qc7(t:Int)(b:LI)(k:LC):Int×LC×LI×Bool:=if(qb0 48 t b k).2≠0 then(0,[],[],false) else qob (qb0 48 t b k).1
def markOf(t:Int)(b:LI)(k:LC):Int×LC×LI×Bool:=shut (qc7 t b k)
def qov(c:CV):Option CV:=if(qc7 (nT c) (nB c) (nK c)).2.2.2=true then some (qu5 (qc7 (nT c) (nB c) (nK c)).1 (qc7 (nT c) (nB c) (nK c)).2.1 (qc7 (nT c) (nB c) (nK c)).2.2.1) else none
def qt1(lo hi:Int)(l:LC):Bool:=shut (evB qov lo hi l)
def qt2(lo hi:Int)(l:LC):LC:=shut (evL qov lo hi l)
def lmB(g t:Int)(b:LI)(k:LC):Bool:=shut (qe0 qov g t b k)
def lmL(g t:Int)(b:LI)(k:LC):LC:=shut (qcj qov g t b k)
def qdf(c:CV):Option CV:=if qe0 qov 48 (nT c) (nB c) (nK c)=true then some (.slg 3 (qcj qov 48 (nT c) (nB c) (nK c))) else none
def qnn(lo hi:Int)(l:LC):Bool:=shut (evB qdf lo hi l)
def qno(lo hi:Int)(l:LC):LC:=shut (evL qdf lo hi l)
def lcB(g t:Int)(b:LI)(k:LC):Bool:=shut (qe0 qdf g t b k)
def lcL(g t:Int)(b:LI)(k:LC):LC:=shut (qcj qdf g t b k)
def algV(c:CV):Option Int:=if(qb2 (nT c) (nB c) (nK c)).2.2=0 then some (qb2 (nT c) (nB c) (nK c)).1 else none
def q08(lo hi:Int)(l:LC):Bool:=shut (evB algV lo hi l)
def q1a(lo hi:Int)(l:LC):LI:=shut (evL algV lo hi l)
def laB(g t:Int)(b:LI)(k:LC):Bool:=shut (qe0 algV g t b k)
def laL(g t:Int)(b:LI)(k:LC):LI:=shut (qcj algV g t b k)
def qnr(ks:LC):LI×LC×Bool:=
 if(ks.length:Int)≠3 then([],[],false) else
  let x:=ks.headD .nili;let y:=ks.getD 1 .nili;let z:=ks.getD 2 .nili
  (qcj algV 48 (nT y) (nB y) (nK y),qcj qdf 48 (nT z) (nB z) (nK z),(decide ((qb6 (nT x) (nB x) (nK x)).2=0)&&decide ((qb6 (nT x) (nB x) (nK x)).1=1))&&(qe0 algV 48 (nT y) (nB y) (nK y)&&qe0 qdf 48 (nT z) (nB z) (nK z)))
def qbo(b:LI):LI×LC×Int:=
 if(qan b).2≠0 then([],[],(qan b).2) else
  let n:=(qan b).1;let e:=qnr (qb0 48 n.1 n.2.1 n.2.2).1
  if(qb0 48 n.1 n.2.1 n.2.2).2=0/\e.2.2=true/\qmn e.1 e.2.1=true then(e.1,e.2.1,0) else([],[],1)
def qfz(b:LI):LI×LC×Int:=shut (qbo b)
def pD(p:Prop):Bool:=@decide p (ya _)
def qp3(a b:LC):Bool:=shut (pD (a=b))
def qnd(a b:LC):Bool:=shut (pD (a=b))
def xbel(g:LI)(c:LC)(g':LI)(c':LC):Bool:=shut (pD (g=g'/\c=c'))
def xbg6(n:CV):Int:=qhf (qgp (nT ((nK ((nK n).headD .nili)).headD .nili)) (nB ((nK ((nK n).headD .nili)).headD .nili)) (nK ((nK ((nK n).headD .nili)).headD .nili))).1
def qv7(n:CV):LC:=if 2<(nK n).length then(nK ((nK n).getD 1 .nili)).map fun p=>.slg 1 ((nK p).map fun d=>.sli .u8 (nB d)) else[]
def mkdC(n:CV):Int×LC×LI:=if(nK n).length<2\/(nK ((nK n).headD .nili)).length≠1 then(0,[],[]) else(xbg6 n,qv7 n,(qoy ((nK n).getD ((nK n).length - 1) .nili)).1)
def mkdV(n:CV):CV:=qu5 (mkdC n).1 (mkdC n).2.1 (mkdC n).2.2
def qdc(k:LC):LC:=if k.length=3 then(nK (k.getD 2 .nili)).map fun c=>.slg 3 ((nK c).map mkdV) else[]
def q87(b:LI):LI×LC×Int:=
 if(qan b).2≠0 then([],[],(qan b).2) else
  let c:=qdc (qan b).1.2.2;let g:=qek c
  if(qbd g c).2=0/\b=(qbd g c).1 then(g,c,0) else([],[],1)
def qql(f:CV->Int->Int):LC->Int->Int
 | [],x=>x
 | c::r,x=>if x<0 then x else qql f r (f c x)
def rowS(c:CV)(x:Int):Int:=x - 1 - min ((qb8 c).length:Int) 1048576
def xbcf(c:CV)(x:Int):Int:=qql rowS (qbl c) (x - 1)
def xbce(c:CV)(x:Int):Int:=qql xbcf (mT c) (x - 2 - min ((mW c).length:Int) 1048576)
def qyn(c:CV)(x:Int):Int:=qql xbce (qbl c) (x - 1)
def qqg(g:LI)(c:LC)(left:Int):Int:=shut (qql qyn c (left - min (g.length:Int) 1000))
def xb42(l:LC):Prop:= ∀c∈l, ∃b:LI,c=.sli .u8 b/\∀x∈b,0<=x/\x<=255
def xb44(t:LC):Prop:= ∀c∈t, ∃l,c=.slg 1 l/\xb42 l
def xbln(l:LC):Prop:= ∀c∈l, ∃d t w,c=qu5 d t w/\xb44 t/\∀x∈w,0<=x/\x<=255
def qs4(l:LC):Prop:= ∀c∈l, ∃m,c=.slg 3 m/\xbln m
def recT(g:LI)(l:LC):Bool:=shut (@decide (g.length<=1000000000000000/\l.length<=1000000000000000/\qs4 l) (ya _))
def xbsi(g:LI)(c:LC):Bool:=shut (c.all (fun x=>decide ((qbl x).length<=25))&&(decide (c.length<=12)&&decide (0<=qqg g c 6000)))
def qa9:Nat->Option CV:=fun g=>cond (Nat.beq g 0) (some (.aggi 256 .u8 u8First)) (cond (Nat.beq g 1) (some (.agga 16 2 u8Accept)) (cond (Nat.beq g 2) (some (xbdt)) (cond (Nat.beq g 3) (some (qzd)) (none))))
def QONums:LV->List Obj->Option (List LC):=fun xs obs=>match xs,obs with
 | [.ptr 0 0 0],[⟨.var [.cl (.sli .u8 b)],false⟩]=>some (qt7 (qwe b))
 | _,_=>none
def xbhq:LV->List Obj->Bool:=fun xs obs=>match xs,obs with
 | [.ptr 0 0 0],[⟨.var [.cl (.sli .u8 b)],false⟩]=>qad b
 | _,_=>false
def q2p:LC->Bool:=fun x=>match x with
 | [.int .u32 _,.bool _]=>true
 | _=>false
def xbhc{x:LC}(h:q2p x=true): ∃e1 e2,x=[.int .u32 e1,.bool e2]:=by
 unfold q2p at h;split at h
 ·exact⟨_,_,rfl⟩
 ·cases h
def xbac:LV->List Obj->Option (List LC):=fun xs obs=>match xs,obs with
 | [],[]=>some (qqa)
 | _,_=>none
def q54:LV->List Obj->Bool:=fun xs obs=>match xs,obs with
 | [],[]=>true
 | _,_=>false
def qog:LC->Bool:=fun x=>match x with
 | [.agg [.int .i64 _,.int .i64 _,.sli .u32 _]]=>true
 | _=>false
def q2o{x:LC}(h:qog x=true): ∃e1 e2 e3,x=[.agg [.int .i64 e1,.int .i64 e2,.sli .u32 e3]]:=by
 unfold qog at h;split at h
 ·exact⟨_,_,_,rfl⟩
 ·cases h
def DDCatch:DSpec:=fun m xs obs=>match m,xs,obs with
 | none,[.ptr 0 0 0,.ptr 1 0 0],[⟨.var [.cl (.int .i64 t),.cl (.sli .u8 bb),.cl (.slg 3 kk)],false⟩,⟨.var [.cl (.int .i64 e)],false⟩]=>zR [] [some ⟨.var [.cl (.int .i64 t),.cl (.sli .u8 bb),.cl (.slg 3 kk)],false⟩,some ⟨.var [.cl (.int .i64 e)],false⟩]
 | some (.iface 85 (.agg [.int .i64 why])),[.ptr 0 0 0,.ptr 1 0 0],[⟨.var [.cl (.int .i64 t),.cl (.sli .u8 bb),.cl (.slg 3 kk)],false⟩,⟨.var [.cl (.int .i64 e)],false⟩]=>zR [] [some ⟨.var [.cl (.int .i64 0),.nils,.nils],false⟩,some ⟨.var [.cl (.int .i64 why)],false⟩]
 | some (.iface 85 (.agg [.int .i64 why])),[.ptr 0 0 0,.ptr 1 0 0],[⟨.var [.cl (.int .i64 t),.nils,.nils],false⟩,⟨.var [.cl (.int .i64 e)],false⟩]=>zR [] [some ⟨.var [.cl (.int .i64 0),.nils,.nils],false⟩,some ⟨.var [.cl (.int .i64 why)],false⟩]
 | _,_,_=>none
def qub:Option CV->LV->List Obj->Bool:=fun m xs obs=>match m,xs,obs with
 | none,[.ptr 0 0 0,.ptr 1 0 0],[⟨.var [.cl (.int .i64 t),.cl (.sli .u8 bb),.cl (.slg 3 kk)],false⟩,⟨.var [.cl (.int .i64 e)],false⟩]=>true
 | some (.iface 85 (.agg [.int .i64 why])),[.ptr 0 0 0,.ptr 1 0 0],[⟨.var [.cl (.int .i64 t),.cl (.sli .u8 bb),.cl (.slg 3 kk)],false⟩,⟨.var [.cl (.int .i64 e)],false⟩]=>true
 | some (.iface 85 (.agg [.int .i64 why])),[.ptr 0 0 0,.ptr 1 0 0],[⟨.var [.cl (.int .i64 t),.nils,.nils],false⟩,⟨.var [.cl (.int .i64 e)],false⟩]=>true
 | _,_,_=>false
def KDigits:Ct:=fun
 | [.cl (.str s)],[]=>some (decide (2<=s.size),.leaf (.ret [.cl (.int .i64 (qge s))] []))
 | _,_=>none
def BDigits:Nat->Ct:=t0
def KDLeap:Ct:=fun
 | [.cl (.aggi 6 .i64 [d0,d1,d2,d3,d4,d5])],[]=>some (stOk d0,.leaf (.ret [.cl (.bool (qne d0))] []))
 | _,_=>none
def BDLeap:Nat->Ct:=tb 172 KDigits BDigits
def KDDays:Ct:=fun
 | [.cl (.aggi 6 .i64 [d0,d1,d2,d3,d4,d5])],[]=>some (stOk d0,.leaf (.ret [.cl (.int .i64 (qj1 d0 d1))] []))
 | _,_=>none
def BDDays:Nat->Ct:=tb 195 KDLeap BDLeap
def KDFit:Ct:=fun
 | [.cl (.aggi 6 .i64 [d0,d1,d2,d3,d4,d5])],[]=>some (true,.leaf (.ret [.cl (.bool (qqv d0 d1 d2 d3 d4 d5))] []))
 | _,_=>none
def BDFit:Nat->Ct:=tb 191 KDDays BDDays
def KDSecs:Ct:=fun
 | [.cl (.aggi 6 .i64 [d0,d1,d2,d3,d4,d5])],[]=>some (qqv d0 d1 d2 d3 d4 d5,.leaf (.ret [.cl (.int .i64 (qvl d0 d1 d2 d3 d4 d5))] []))
 | _,_=>none
def BDSecs:Nat->Ct:=tb 173 KDFit BDFit
def KSRead:Ct:=fun
 | [.cl (.str s)],[]=>some (true,.leaf (.ret [.cl (.int .i64 ((qp7 s).1)),.cl (.int .i64 ((qp7 s).2))] []))
 | _,_=>none
def BSRead:Nat->Ct:=tb 174 KDSecs BDSecs
def KRLeap:Ct:=fun
 | [.cl (.int .i64 y)],[]=>some (stOk y,.leaf (.ret [.cl (.bool (qne y))] []))
 | _,_=>none
def BRLeap:Nat->Ct:=tb 136 KSRead BSRead
def KRDays:Ct:=fun
 | [.cl (.int .i64 y),.cl (.int .i64 m)],[]=>some (true,.leaf (.ret [.cl (.int .i64 (qkc y m))] []))
 | _,_=>none
def BRDays:Nat->Ct:=tb 193 KRLeap BRLeap
def KRYears:Ct:=fun
 | [.cl (.int .i64 y)],[]=>some (stOk y,.leaf (.ret [.cl (.int .i64 (qff y))] []))
 | _,_=>none
def BRYears:Nat->Ct:=tb 181 KRDays BRDays
def KRNumber:Ct:=fun
 | [.cl (.str s)],[]=>some (decide (s.size<=18),.leaf (.ret [.cl (.int .i64 (qet s))] []))
 | _,_=>none
def BRNumber:Nat->Ct:=tb 182 KRYears BRYears
def KRRead:Ct:=fun
 | [.cl (.str s)],[]=>some (true,.leaf (.ret [.cl (.int .i64 ((qp7 s).1)),.cl (.int .i64 ((qp7 s).2))] []))
 | _,_=>none
def BRRead:Nat->Ct:=tb 180 KRNumber BRNumber
def KDBoxed:Ct:=fun
 | [.cl (.int .i64 tag)],[]=>some (true,.leaf (.ret [.cl (.bool (qbn tag))] []))
 | _,_=>none
def BDBoxed:Nat->Ct:=tb 148 KRRead BRRead
def KRBoxed:Ct:=fun
 | [.cl (.int .i64 tag)],[]=>some (true,.leaf (.ret [.cl (.bool (qbn tag))] []))
 | _,_=>none
def BRBoxed:Nat->Ct:=tb 50 KDBoxed BDBoxed
def KDKnown:Ct:=fun
 | [.cl (.int .i64 tag)],[]=>some (true,.leaf (.ret [.cl (.bool (qep tag))] []))
 | _,_=>none
def BDKnown:Nat->Ct:=tb 103 KRBoxed BRBoxed
def KRTagged:Ct:=fun
 | [.cl (.int .i64 tag)],[]=>some (true,.leaf (.ret [.cl (.bool (qep tag))] []))
 | _,_=>none
def BRTagged:Nat->Ct:=tb 87 KDKnown BDKnown
def qng:Ct:=fun
 | [.cl (.int .i64 n)],[]=>some (true,.leaf (.ret [.cl (.int .i64 (qcn n))] []))
 | _,_=>none
def qw3:Nat->Ct:=tb 101 KRTagged BRTagged
def KDNumber:Ct:=fun
 | [.cl (.sli .u8 b)],[]=>some (qad b,.leaf (.ret [.cl (.bool (qgk b))] []))
 | _,_=>none
def BDNumber:Nat->Ct:=tb 121 qng qw3
def q4d:Ct:=fun
 | [.cl (.sli .u8 b)],[]=>some (qad b,.leaf (.ret [.cl (.bool (qgk b))] []))
 | _,_=>none
def q35:Nat->Ct:=tb 132 KDNumber BDNumber
def KDStrip:Ct:=fun
 | [.cl (.sli .u8 b)],[]=>some (qad b,.leaf (.ret [.cl (.bool (qjb b))] []))
 | _,_=>none
def BDStrip:Nat->Ct:=tb 145 q4d q35
def qxi:Ct:=fun
 | [.cl (.sli .u8 b)],[]=>some (qad b,.leaf (.ret [.cl (.bool (qjb b))] []))
 | _,_=>none
def qw7:Nat->Ct:=tb 133 KDStrip BDStrip
def KRCont:Ct:=fun
 | [.cl (.sli .u8 b),.cl (.int .i64 i)],[]=>some (decide (0<=i),.leaf (.ret [.cl (.bool (u8Cont b i))] []))
 | _,_=>none
def BRCont:Nat->Ct:=tb 146 qxi qw7
def KRRune:Ct:=fun
 | [.cl (.sli .u8 b),.cl (.int .i64 i)],[]=>some (qad b&&decide (0<=i/\i<b.length),.leaf (.ret [.cl (.int .i64 (u8Rune b i))] []))
 | _,_=>none
def BRRune:Nat->Ct:=tb 192 KRCont BRCont
def KRUtf8:Ct:=fun
 | [.cl (.sli .u8 b)],[]=>some (qad b,.leaf (.ret [.cl (.bool (u8Valid b))] []))
 | _,_=>none
def BRUtf8:Nat->Ct:=tb 179 KRRune BRRune
def KOFit:Ct:=fun
 | [.cl (.sli .u32 o)],[]=>some (true,.leaf (.ret [.cl (.bool (qk8 o))] []))
 | _,_=>none
def BOFit:Nat->Ct:=tb 147 KRUtf8 BRUtf8
def KR2Fit:Ct:=fun
 | [.cl (.sli .u32 o)],[]=>some (true,.leaf (.ret [.cl (.bool (qk8 o))] []))
 | _,_=>none
def BR2Fit:Nat->Ct:=tb 170 KOFit BOFit
def KR2First:Ct:=fun
 | [.cl (.int .u64 n)],[]=>some (u32Ok n,.leaf (.ret [.cl (.sli .u32 (qhc n))] []))
 | _,_=>none
def BR2First:Nat->Ct:=tb 150 KR2Fit BR2Fit
def KONumber:Ct:=fun
 | [.cl (.sli .u8 b)],[]=>some (qad b,.leaf (.ret [.cl (.int .u32 ((qgm b).1)),.cl (.int .i64 ((qgm b).2))] []))
 | _,_=>none
def BONumber:Nat->Ct:=tb 149 KR2First BR2First
def KONumbers:Ct:=fun
 | [.cl (.sli .u8 b)],[]=>some (true,.leaf (.ret [.fn (.func 189) [] [.ptr 0 0 0]] [some ⟨.var [.cl (.sli .u8 b)],false⟩]))
 | _,_=>none
def BONumbers:Nat->Ct:=tb 190 KONumber BONumber
def KARoot:Ct:=fun
 | [.cl (.int .i64 0)],[]=>some (true,.leaf (.ret [.ref 0 0 8 true 1] [some ⟨.ints .u32 [2,16,840,1,101,3,4,2],false⟩]))
 | [.cl (.int .i64 1)],[]=>some (true,.leaf (.ret [.ref 0 0 8 true 1] [some ⟨.ints .u32 [2,16,840,1,101,3,4,3],false⟩]))
 | [.cl (.int .i64 2)],[]=>some (true,.leaf (.ret [.ref 0 0 8 true 1] [some ⟨.ints .u32 [2,16,840,1,101,3,4,4],false⟩]))
 | [.cl (.int .i64 3)],[]=>some (true,.leaf (.ret [.ref 0 0 8 true 1] [some ⟨.ints .u32 [2,16,840,1,101,3,4,1],false⟩]))
 | [.cl (.int .i64 4)],[]=>some (true,.leaf (.ret [.ref 0 0 8 true 1] [some ⟨.ints .u32 [1,2,840,113549,1,9,16,3],false⟩]))
 | [.cl (.int .i64 5)],[]=>some (true,.leaf (.ret [.ref 0 0 2 true 1] [some ⟨.ints .u32 [2,999],false⟩]))
 | _,_=>none
def BARoot:Nat->Ct:=tb 169 KONumbers BONumbers
def SOParse:LV->List Obj->Tree:=fun xs obs=>match xs,obs with
 | [.cl (.sli .u8 b)],[]=>.leaf (.ret [.cl (.sli .u32 ((qcl b).1)),.cl (.int .i64 ((qcl b).2))] [])
 | _,_=>.fail
def qz3:LV->List Obj->Bool:=fun xs obs=>match xs,obs with
 | [.cl (.sli .u8 b)],[]=>qad b
 | _,_=>false
def BOParse:Nat->Ct:=tb 176 KARoot BARoot
def KR2Parse:Ct:=fun
 | [.cl (.sli .u8 b)],[]=>some (qad b,.leaf (.ret [.cl (.sli .u32 ((qcl b).1)),.cl (.int .i64 ((qcl b).2))] []))
 | _,_=>none
def BR2Parse:Nat->Ct:=tb 134 (ofS qz3 SOParse) BOParse
def KR1Same:Ct:=fun
 | [.cl (.sli .u8 a),.cl (.sli .u8 b)],[]=>some (qdu a,.leaf (.ret [.cl (.bool (qcr a b))] []))
 | _,_=>none
def BR1Same:Nat->Ct:=tb 107 KR2Parse BR2Parse
def KSClone:Ct:=fun
 | [.cl (.sli .u8 b)],[]=>some (qdu b,.leaf (.ret [.cl (.sli .u8 b)] []))
 | _,_=>none
def BSClone:Nat->Ct:=tb 14 KR1Same BR1Same
def KR1Num:Ct:=fun
 | [.cl (.sli .u8 b)],[]=>some (qad b&&decide (b.length<=7),.leaf (.ret [.cl (.int .u64 (qhy b))] []))
 | _,_=>none
def BR1Num:Nat->Ct:=tb 91 KSClone BSClone
def KRLength:Ct:=fun
 | [.cl (.sli .u8 b)],[]=>some (qad b,.leaf (.ret [.cl (.int .i64 ((qhm b).1)),.cl (.int .i64 ((qhm b).2))] []))
 | _,_=>none
def BRLength:Nat->Ct:=tb 144 KR1Num BR1Num
def KR4Less:Ct:=fun
 | [.cl (.sli .u8 a),.cl (.sli .u8 b)],[]=>some (qdu a,.leaf (.ret [.cl (.bool (qe9 a b))] []))
 | _,_=>none
def BR4Less:Nat->Ct:=tb 102 KRLength BRLength
def KUWord:Ct:=fun
 | [.cl (.sli .u8 b)],[]=>some (qad b&&decide (8<=b.length),.leaf (.ret [.cl (.int .u64 (u8Word b))] []))
 | _,_=>none
def BUWord:Nat->Ct:=tb 111 KR4Less BR4Less
def KUValid:Ct:=fun
 | [.cl (.sli .u8 b)],[]=>some (qad b,.leaf (.ret [.cl (.bool (u8Valid b))] []))
 | _,_=>none
def BUValid:Nat->Ct:=tb 171 KUWord BUWord
def KDFits:Ct:=fun
 | [.cl (.int .i64 tag),.cl (.sli .u8 b)],[]=>some (qad b,.leaf (.ret [.cl (.bool (qdn tag b))] []))
 | _,_=>none
def BDFits:Nat->Ct:=tb 135 KUValid BUValid
def KRFits:Ct:=fun
 | [.cl (.int .i64 tag),.cl (.sli .u8 b)],[]=>some (qad b,.leaf (.ret [.cl (.bool (qdn tag b))] []))
 | _,_=>none
def BRFits:Nat->Ct:=tb 90 KDFits BDFits
def KR4Sorted:Ct:=fun
 | [.cl (.slg 1 l)],[]=>some (qhj l,.leaf (.ret [.cl (.bool (qbp l))] []))
 | _,_=>none
def BR4Sorted:Nat->Ct:=tb 104 KRFits BRFits
def SBACompare:LV->List Obj->Tree:=fun xs obs=>match xs,obs with
 | [.cl (.sli .u8 a),.cl (.sli .u8 b)],[]=>.leaf (.ret [.cl (.int .i64 (qhr a b))] [])
 | _,_=>.fail
def qjw:LV->List Obj->Bool:=fun xs obs=>match xs,obs with
 | [.cl (.sli .u8 a),.cl (.sli .u8 b)],[]=>qad a&&qad b
 | _,_=>false
def BBACompare:Nat->Ct:=tb 105 KR4Sorted BR4Sorted
def KBCompare:Ct:=fun
 | [.cl (.sli .u8 a),.cl (.sli .u8 b)],[]=>some (qad a&&qad b,.leaf (.ret [.cl (.int .i64 (qhr a b))] []))
 | _,_=>none
def BBCompare:Nat->Ct:=tb 185 (ofS qjw SBACompare) BBACompare
def KOLess:Ct:=fun
 | [.cl (.sli .u8 a),.cl (.sli .u8 b)],[]=>some (qad a&&qad b,.leaf (.ret [.cl (.bool (decide (qhr a b<=0)))] []))
 | _,_=>none
def BOLess:Nat->Ct:=tb 161 KBCompare BBCompare
def KOSteps:Ct:=fun
 | [.cl (.slg 1 l),.cl (.fn (.func 160) [] [])],[]=>some (qhj l,.leaf (.ret [.cl (.bool (qbp l))] []))
 | _,_=>none
def BOSteps:Nat->Ct:=tb 160 KOLess BOLess
def KOSorted:Ct:=fun
 | [.cl (.slg 1 l)],[]=>some (qhj l,.leaf (.ret [.cl (.bool (qbp l))] []))
 | _,_=>none
def BOSorted:Nat->Ct:=tb 159 KOSteps BOSteps
def qvo:LV->List Obj->Tree:=fun xs obs=>match xs,obs with
 | [.cl (.sli .u8 b),.cl (.int .i64 deep)],[]=>.leaf (.ret [.cl (.agg [.int .i64 ((qfb b deep).1.1),.sli .u8 ((qfb b deep).1.2.1),.slg 3 ((qfb b deep).1.2.2)]),.cl (.int .i64 ((qfb b deep).2.1)),.cl (.int .i64 ((qfb b deep).2.2))] [])
 | _,_=>.fail
def qrv:LV->List Obj->Bool:=fun xs obs=>match xs,obs with
 | [.cl (.sli .u8 b),.cl (.int .i64 deep)],[]=>qad b&&qc1 deep
 | _,_=>false
def que(rk:Nat):LV->List Obj->Bool:=fun xs obs=>match xs,obs with
 | [.cl (.sli .u8 b),.cl (.int .i64 deep)],[]=>qad b&&(qc1 deep&&decide (deep.toNat<rk))
 | _,_=>false
def xbns:Nat->Ct:=tb 123 KOSorted BOSorted
def KRParse:Ct:=fun
 | [.cl (.sli .u8 b)],[]=>some (qad b,.leaf (.ret [.cl (.agg [.int .i64 ((qan b).1.1),.sli .u8 ((qan b).1.2.1),.slg 3 ((qan b).1.2.2)]),.cl (.int .i64 ((qan b).2))] []))
 | _,_=>none
def BRParse:Nat->Ct:=tb 59 (ofS qrv qvo) xbns
def KDMust:Ct:=fun
 | [.cl (.bool true),.cl (.int .i64 e)],[]=>some (true,.leaf (.ret [] []))
 | [.cl (.bool false),.cl (.int .i64 e)],[]=>some (true,.ite (true) (.leaf (.pan (.iface 85 (.agg [.int .i64 e])) [])) (.leaf (.ret [] [])))
 | _,_=>none
def BDMust:Nat->Ct:=tb 30 KRParse BRParse
def KDNext:Ct:=fun
 | [.ptr 0 0 0],[⟨.var [.cl (.sli .u8 l),.cl (.int .i64 d)],false⟩]=>some (qad l,.ite (l.isEmpty) (.leaf (.pan (.iface 85 (.agg [.int .i64 1])) [some ⟨.var [.cl (.sli .u8 l),.cl (.int .i64 d)],false⟩])) (.leaf (.ret [.cl (.int .i64 (l.headD 0))] [some ⟨.var [.cl (.sli .u8 l.tail),.cl (.int .i64 d)],false⟩])))
 | _,_=>none
def BDNext:Nat->Ct:=tb 49 KDMust BDMust
def KDLength:Ct:=fun
 | [.ptr 0 0 0],[⟨.var [.cl (.sli .u8 l),.cl (.int .i64 d)],false⟩]=>some (qad l,.ite (!(qqp l)) (.leaf (.pan (.iface 85 (.agg [.int .i64 1])) [some ⟨.var [.cl (.sli .u8 (qhx l)),.cl (.int .i64 d)],false⟩])) (.leaf (.ret [.cl (.int .i64 ((qfc l).1))] [some ⟨.var [.cl (.sli .u8 ((qfc l).2)),.cl (.int .i64 d)],false⟩])))
 | _,_=>none
def BDLength:Nat->Ct:=tb 86 KDNext BDNext
def SDValue:LV->List Obj->Tree:=fun xs obs=>match xs,obs with
 | [.ptr 0 0 0],[⟨.var [.cl (.sli .u8 l),.cl (.int .i64 d)],false⟩]=>.ite (!(decide ((qmk l d).1=0))) (.leaf (.pan (.iface 85 (.agg [.int .i64 ((qmk l d).1)])) [some ⟨.var [.cl (.sli .u8 ((qmk l d).2.2)),.cl (.int .i64 d)],false⟩])) (.leaf (.ret [.cl (.agg [.int .i64 ((qmk l d).2.1.1),.sli .u8 ((qmk l d).2.1.2.1),.slg 3 ((qmk l d).2.1.2.2)])] [some ⟨.var [.cl (.sli .u8 ((qmk l d).2.2)),.cl (.int .i64 d)],false⟩]))
 | _,_=>.fail
def qoi:LV->List Obj->Bool:=fun xs obs=>match xs,obs with
 | [.ptr 0 0 0],[⟨.var [.cl (.sli .u8 l),.cl (.int .i64 d)],false⟩]=>qad l&&qc1 d
 | _,_=>false
def qla(rk:Nat):LV->List Obj->Bool:=fun xs obs=>match xs,obs with
 | [.ptr 0 0 0],[⟨.var [.cl (.sli .u8 l),.cl (.int .i64 d)],false⟩]=>qad l&&(qc1 d&&decide (d.toNat<rk))
 | _,_=>false
def BDValue:Nat->Ct:=tb 88 KDLength BDLength
def SDParts:LV->List Obj->Tree:=fun xs obs=>match xs,obs with
 | [.ptr 0 0 0,.cl (.int .i64 tag),.cl (.sli .u8 b)],[⟨.var [.cl (.sli .u8 l),.cl (.int .i64 d)],false⟩]=>.ite (!(decide ((qbe tag b d).1=0))) (.leaf (.pan (.iface 85 (.agg [.int .i64 ((qbe tag b d).1)])) [some ⟨.var [.cl (.sli .u8 l),.cl (.int .i64 d)],false⟩])) (.leaf (.ret [.cl (.agg [.int .i64 ((qbe tag b d).2.1),.sli .u8 ((qbe tag b d).2.2.1),.slg 3 ((qbe tag b d).2.2.2)])] [some ⟨.var [.cl (.sli .u8 l),.cl (.int .i64 d)],false⟩]))
 | _,_=>.fail
def qru:LV->List Obj->Bool:=fun xs obs=>match xs,obs with
 | [.ptr 0 0 0,.cl (.int .i64 tag),.cl (.sli .u8 b)],[⟨.var [.cl (.sli .u8 l),.cl (.int .i64 d)],false⟩]=>qad b&&(qc1 d&&decide (0<d))
 | _,_=>false
def qud(rk:Nat):LV->List Obj->Bool:=fun xs obs=>match xs,obs with
 | [.ptr 0 0 0,.cl (.int .i64 tag),.cl (.sli .u8 b)],[⟨.var [.cl (.sli .u8 l),.cl (.int .i64 d)],false⟩]=>qad b&&(qc1 d&&decide (0<d/\d.toNat<rk+1))
 | _,_=>false
def BDParts:Nat->Ct:=tb 48 (ofS qoi SDValue) BDValue
def SDParse:LV->List Obj->Tree:=fun xs obs=>match xs,obs with
 | [.cl (.sli .u8 b)],[]=>.leaf (.ret [.cl (.agg [.int .i64 ((qan b).1.1),.sli .u8 ((qan b).1.2.1),.slg 3 ((qan b).1.2.2)]),.cl (.int .i64 ((qan b).2))] [])
 | _,_=>.fail
def qz2:LV->List Obj->Bool:=fun xs obs=>match xs,obs with
 | [.cl (.sli .u8 b)],[]=>qad b
 | _,_=>false
def BDParse:Nat->Ct:=tb 89 (ofS qru SDParts) BDParts
def SDSize:LV->List Obj->Tree:=fun xs obs=>match xs,obs with
 | [.cl (.agg a),.cl (.int .i64 deep)],[]=>.leaf (.ret [.cl (.int .i64 (q2k a deep))] [])
 | _,_=>.fail
def quc:LV->List Obj->Bool:=fun xs obs=>match xs,obs with
 | [.cl (.agg a),.cl (.int .i64 deep)],[]=>isS a&&qc1 deep
 | _,_=>false
def qmb(rk:Nat):LV->List Obj->Bool:=fun xs obs=>match xs,obs with
 | [.cl (.agg a),.cl (.int .i64 deep)],[]=>isSr rk a&&qc1 deep
 | _,_=>false
def BDSize:Nat->Ct:=tb 23 (ofS qz2 SDParse) BDParse
def KDPut:Ct:=fun
 | [.nils,.cl (.int .i64 tag),.cl (.int .i64 n)],[]=>some (qhg tag n,.leaf (.ret [.ref 0 0 ((qch tag n).length) true 1] [some ⟨.ints .u8 (qch tag n),false⟩]))
 | _,_=>none
def BDPut:Nat->Ct:=tb 73 (ofS quc SDSize) BDSize
def KRHead:Ct:=fun
 | [.cl (.int .i64 tag),.cl (.int .i64 n)],[]=>some (qhg tag n,.leaf (.ret [.ref 0 0 ((qch tag n).length) true 1] [some ⟨.ints .u8 (qch tag n),false⟩]))
 | _,_=>none
def BRHead:Nat->Ct:=tb 122 KDPut BDPut
def KR1Join:Ct:=fun
 | [.cl (.slg 1 l)],[]=>some (qmi l,.leaf (.ret [.cl (.sli .u8 (qcs l))] []))
 | _,_=>none
def BR1Join:Nat->Ct:=tb 128 KRHead BRHead
def SSGrow:LV->List Obj->Tree:=fun xs obs=>match xs,obs with
 | [.nils,.cl (.int .i64 n)],[]=>.leaf (.ret [.ref 0 0 0 true 1] [some ⟨.ints .u8 qa6,false⟩])
 | _,_=>.fail
def qz4:LV->List Obj->Bool:=fun xs obs=>match xs,obs with
 | [.nils,.cl (.int .i64 n)],[]=>q2a n
 | _,_=>false
def BSGrow:Nat->Ct:=tb 129 KR1Join BR1Join
def KSConcat:Ct:=fun
 | [.cl (.slg 1 l)],[]=>some (qmi l,.leaf (.ret [.cl (.sli .u8 (qcs l))] []))
 | _,_=>none
def BSConcat:Nat->Ct:=tb 162 (ofS qz4 SSGrow) BSGrow
def SDWrite:LV->List Obj->Tree:=fun xs obs=>match xs,obs with
 | [.cl (.agg a)],[]=>.leaf (.ret [.cl (.sli .u8 ((qef a).1)),.cl (.bool ((qef a).2))] [])
 | _,_=>.fail
def qoj:LV->List Obj->Bool:=fun xs obs=>match xs,obs with
 | [.cl (.agg a)],[]=>isW a
 | _,_=>false
def qiy(rk:Nat):LV->List Obj->Bool:=fun xs obs=>match xs,obs with
 | [.cl (.agg a)],[]=>isWr rk a
 | _,_=>false
def BDWrite:Nat->Ct:=tb 124 KSConcat BSConcat
def SRWrite:LV->List Obj->Tree:=fun xs obs=>match xs,obs with
 | [.cl (.agg a),.cl (.int .i64 deep)],[]=>.leaf (.ret [.cl (.sli .u8 ((qhb a deep).1)),.cl (.bool ((qhb a deep).2))] [])
 | _,_=>.fail
def qok:LV->List Obj->Bool:=fun xs obs=>match xs,obs with
 | [.cl (.agg a),.cl (.int .i64 deep)],[]=>isS a&&qc1 deep
 | _,_=>false
def qiz(rk:Nat):LV->List Obj->Bool:=fun xs obs=>match xs,obs with
 | [.cl (.agg a),.cl (.int .i64 deep)],[]=>isSr rk a&&qc1 deep
 | _,_=>false
def BRWrite:Nat->Ct:=tb 74 (ofS qoj SDWrite) BDWrite
def SDBytes:LV->List Obj->Tree:=fun xs obs=>match xs,obs with
 | [.cl (.agg a)],[]=>.leaf (.ret [.cl (.sli .u8 ((qbb a).1)),.cl (.int .i64 ((qbb a).2))] [])
 | _,_=>.fail
def qjx:LV->List Obj->Bool:=fun xs obs=>match xs,obs with
 | [.cl (.agg a)],[]=>isS a
 | _,_=>false
def BDBytes:Nat->Ct:=tb 77 (ofS qok SRWrite) BRWrite
def xbrv:LV->List Obj->Tree:=fun xs obs=>match xs,obs with
 | [.cl (.agg a)],[]=>.leaf (.ret [.cl (.bool (qrr a))] [])
 | _,_=>.fail
def qpy:LV->List Obj->Bool:=fun xs obs=>match xs,obs with
 | [.cl (.agg a)],[]=>isS a
 | _,_=>false
def xbxa:Nat->Ct:=tb 36 (ofS qjx SDBytes) BDBytes
def SRBytes:LV->List Obj->Tree:=fun xs obs=>match xs,obs with
 | [.cl (.agg a)],[]=>.leaf (.ret [.cl (.sli .u8 ((qbb a).1)),.cl (.int .i64 ((qbb a).2))] [])
 | _,_=>.fail
def qjy:LV->List Obj->Bool:=fun xs obs=>match xs,obs with
 | [.cl (.agg a)],[]=>isS a
 | _,_=>false
def BRBytes:Nat->Ct:=tb 72 (ofS qpy xbrv) xbxa
def xbrw:LV->List Obj->Tree:=fun xs obs=>match xs,obs with
 | [.cl (.agg a)],[]=>.leaf (.ret [.cl (.bool (qrr a))] [])
 | _,_=>.fail
def qpz:LV->List Obj->Bool:=fun xs obs=>match xs,obs with
 | [.cl (.agg a)],[]=>isS a
 | _,_=>false
def xbxb:Nat->Ct:=tb 38 (ofS qjy SRBytes) BRBytes
def KSEq32:Ct:=fun
 | [.cl (.sli .u32 a),.cl (.sli .u32 b)],[]=>some (qdu a,.leaf (.ret [.cl (.bool (qcr a b))] []))
 | _,_=>none
def BSEq32:Nat->Ct:=tb 66 (ofS qpz xbrw) xbxb
def KOSame:Ct:=fun
 | [.cl (.sli .u32 a),.cl (.sli .u32 b)],[]=>some (qdu a,.leaf (.ret [.cl (.bool (qcr a b))] []))
 | _,_=>none
def BOSame:Nat->Ct:=tb 177 KSEq32 BSEq32
def KOPut:Ct:=fun
 | [.nils,.cl (.int .u32 n)],[]=>some (u32Ok n,.leaf (.ret [.ref 0 0 ((qbv n).length) true 1] [some ⟨.ints .u8 (qbv n),false⟩]))
 | [.ref 0 0 m true 1,.cl (.int .u32 n)],[⟨.ints .u8 l,false⟩]=>some (u32Ok n&&qdu l,.leaf (.ret [.ref 1 0 ((l++qbv n).length) true 1] [none,some ⟨.ints .u8 (l++qbv n),false⟩]))
 | _,_=>none
def BOPut:Nat->Ct:=tb 139 KOSame BOSame
def KR2Groups:Ct:=fun
 | [.cl (.int .u32 n)],[]=>some (u32Ok n,.leaf (.ret [.ref 0 0 ((qbv n).length) true 1] [some ⟨.ints .u8 (qbv n),false⟩]))
 | _,_=>none
def BR2Groups:Nat->Ct:=tb 184 KOPut BOPut
def KOBytes:Ct:=fun
 | [.cl (.sli .u32 o)],[]=>some (qvm o,.leaf (.ret [.cl (.sli .u8 (qay o))] []))
 | _,_=>none
def BOBytes:Nat->Ct:=tb 183 KR2Groups BR2Groups
def KR2Bytes:Ct:=fun
 | [.cl (.sli .u32 o)],[]=>some (qvm o,.leaf (.ret [.cl (.sli .u8 (qay o))] []))
 | _,_=>none
def BR2Bytes:Nat->Ct:=tb 156 KOBytes BOBytes
def KVBNum:Ct:=fun
 | [.cl (.sli .u8 b)],[]=>some (num8 b,.leaf (.ret [.cl (.int .u64 (qhy b))] []))
 | _,_=>none
def BVBNum:Nat->Ct:=tb 154 KR2Bytes BR2Bytes
def KVLe:Ct:=fun
 | [.cl (.int .u64 n),.cl (.int .i64 8)],[]=>some (u64Ok n,.leaf (.ret [.ref 0 0 8 true 1] [some ⟨.ints .u8 (vLe n),false⟩]))
 | _,_=>none
def BVLe:Nat->Ct:=tb 92 KVBNum BVBNum
def KVReverse:Ct:=fun
 | [.ref 0 0 8 true 1],[⟨.ints .u8 l,false⟩]=>some (xb2i l,.leaf (.ret [] [some ⟨.ints .u8 (vRev l),false⟩]))
 | _,_=>none
def BVReverse:Nat->Ct:=tb 157 KVLe BVLe
def KVBe:Ct:=fun
 | [.cl (.int .u64 n),.cl (.int .i64 8)],[]=>some (u64Ok n,.leaf (.ret [.cl (.sli .u8 (vBe n))] []))
 | _,_=>none
def BVBe:Nat->Ct:=tb 158 KVReverse BVReverse
def KVR1Be:Ct:=fun
 | [.cl (.int .u64 n),.cl (.int .i64 8)],[]=>some (u64Ok n,.leaf (.ret [.cl (.sli .u8 (vBe n))] []))
 | _,_=>none
def BVR1Be:Nat->Ct:=tb 120 KVBe BVBe
def KVInt:Ct:=fun
 | [.cl (.int .i64 n)],[]=>some (q6m n,.leaf (.ret [.cl (.agg [.int .i64 2,.sli .u8 (vInt n),.slg 3 qcg])] []))
 | _,_=>none
def BVInt:Nat->Ct:=tb 114 KVR1Be BVR1Be
def KVRInt:Ct:=fun
 | [.cl (.int .i64 n)],[]=>some (q6m n,.leaf (.ret [.cl (.agg [.int .i64 2,.sli .u8 (vInt n),.slg 3 qcg])] []))
 | _,_=>none
def BVRInt:Nat->Ct:=tb 71 KVInt BVInt
def KVNumber:Ct:=fun
 | [.cl (.sli .u8 b)],[]=>some (qad b,.leaf (.ret [.cl (.int .i64 ((qqx b).1)),.cl (.int .i64 ((qqx b).2))] []))
 | _,_=>none
def BVNumber:Nat->Ct:=tb 65 KVRInt BVRInt
def xbc2:Ct:=fun
 | [.cl (.agg [.int .i64 t,.sli .u8 b,.slg 3 k]),.cl (.int .i64 2),.cl (.fn (.func 53) [] [])],[]=>some (isS [.int .i64 t,.sli .u8 b,.slg 3 k],.leaf (.ret [.cl (.int .i64 ((qb6 t b k).1)),.cl (.int .i64 ((qb6 t b k).2))] []))
 | _,_=>none
def xbco:Nat->Ct:=tb 53 KVNumber BVNumber
def xbc3:Ct:=fun
 | [.cl (.agg [.int .i64 t,.sli .u8 b,.slg 3 k]),.cl (.int .i64 6),.cl (.fn (.func 134) [] [])],[]=>some (isS [.int .i64 t,.sli .u8 b,.slg 3 k],.leaf (.ret [.cl (.sli .u32 ((qgp t b k).1)),.cl (.int .i64 ((qgp t b k).2))] []))
 | _,_=>none
def xbcp:Nat->Ct:=tb 52 xbc2 xbco
def xbc1:Ct:=fun
 | [.cl (.agg [.int .i64 t,.sli .u8 b,.slg 3 k])],[]=>some (isS [.int .i64 t,.sli .u8 b,.slg 3 k],.leaf (.ret [.cl (.int .i64 ((qb6 t b k).1)),.cl (.int .i64 ((qb6 t b k).2))] []))
 | _,_=>none
def xbcn:Nat->Ct:=tb 137 xbc3 xbcp
def qxk:Ct:=fun
 | [.cl (.agg [.int .i64 t,.sli .u8 b,.slg 3 k])],[]=>some (isS [.int .i64 t,.sli .u8 b,.slg 3 k],.leaf (.ret [.cl (.sli .u8 ((qa2 t b k).1)),.cl (.int .i64 ((qa2 t b k).2))] []))
 | _,_=>none
def qw9:Nat->Ct:=tb 25 xbc1 xbcn
def xbrt:Ct:=fun
 | [.cl (.agg [.int .i64 t,.sli .u8 b,.slg 3 k])],[]=>some (isS [.int .i64 t,.sli .u8 b,.slg 3 k],.leaf (.ret [.cl (.sli .u32 ((qgp t b k).1)),.cl (.int .i64 ((qgp t b k).2))] []))
 | _,_=>none
def xbq4:Nat->Ct:=tb 140 qxk qw9
def KVMade:Ct:=fun
 | [.cl (.int .i64 g),.cl (.sli .u8 b)],[]=>some (qty g b,.leaf (.ret [.cl (.agg [.int .i64 ((qgq g b).1),.sli .u8 ((qgq g b).2.1),.slg 3 qcg]),.cl (.int .i64 ((qgq g b).2.2))] []))
 | _,_=>none
def BVMade:Nat->Ct:=tb 93 xbrt xbq4
def KVId:Ct:=fun
 | [.cl (.sli .u32 o)],[]=>some (idOk o,.leaf (.ret [.cl (.agg [.int .i64 ((qgq 6 (qay o)).1),.sli .u8 ((qgq 6 (qay o)).2.1),.slg 3 qcg]),.cl (.int .i64 ((qgq 6 (qay o)).2.2))] []))
 | _,_=>none
def BVId:Nat->Ct:=tb 155 KVMade BVMade
def KVBytes:Ct:=fun
 | [.cl (.sli .u8 b)],[]=>some (qdu b,.leaf (.ret [.cl (.agg [.int .i64 4,.sli .u8 b,.slg 3 qcg])] []))
 | _,_=>none
def BVBytes:Nat->Ct:=tb 118 KVId BVId
def KVRMade:Ct:=fun
 | [.cl (.int .i64 g),.cl (.sli .u8 b)],[]=>some (qty g b,.leaf (.ret [.cl (.agg [.int .i64 ((qgq g b).1),.sli .u8 ((qgq g b).2.1),.slg 3 qcg]),.cl (.int .i64 ((qgq g b).2.2))] []))
 | _,_=>none
def BVRMade:Nat->Ct:=tb 119 KVBytes BVBytes
def KVRId:Ct:=fun
 | [.cl (.sli .u32 o)],[]=>some (idOk o,.leaf (.ret [.cl (.agg [.int .i64 ((qgq 6 (qay o)).1),.sli .u8 ((qgq 6 (qay o)).2.1),.slg 3 qcg]),.cl (.int .i64 ((qgq 6 (qay o)).2.2))] []))
 | _,_=>none
def BVRId:Nat->Ct:=tb 153 KVRMade BVRMade
def KVRBytes:Ct:=fun
 | [.cl (.sli .u8 b)],[]=>some (qdu b,.leaf (.ret [.cl (.agg [.int .i64 4,.sli .u8 b,.slg 3 qcg])] []))
 | _,_=>none
def BVRBytes:Nat->Ct:=tb 112 KVRId BVRId
def KVClone:Ct:=fun
 | [.cl (.slg 3 l)],[]=>some (qbw l,.leaf (.ret [.cl (.slg 3 l)] []))
 | _,_=>none
def BVClone:Nat->Ct:=tb 113 KVRBytes BVRBytes
def KVSeq:Ct:=fun
 | [.cl (.slg 3 l)],[]=>some (qbw l,.leaf (.ret [.cl (.agg [.int .i64 48,.sli .u8 qa6,.slg 3 l])] []))
 | _,_=>none
def BVSeq:Nat->Ct:=tb 51 KVClone BVClone
def KVBox:Ct:=fun
 | [.cl (.int .i64 g),.cl (.slg 3 l)],[]=>some (qbw l,.leaf (.ret [.cl (.agg [.int .i64 ((vBox g l).1),.sli .u8 qa6,.slg 3 ((vBox g l).2.1)]),.cl (.int .i64 ((vBox g l).2.2))] []))
 | _,_=>none
def BVBox:Nat->Ct:=tb 70 KVSeq BVSeq
def KVKids:Ct:=fun
 | [.cl (.agg [.int .i64 t,.sli .u8 b,.slg 3 k]),.cl (.int .i64 g)],[]=>some (qbw k,.leaf (.ret [.cl (.slg 3 ((qb0 g t b k).1)),.cl (.int .i64 ((qb0 g t b k).2))] []))
 | _,_=>none
def BVKids:Nat->Ct:=tb 165 KVBox BVBox
def KVRSeq:Ct:=fun
 | [.cl (.slg 3 l)],[]=>some (qbw l,.leaf (.ret [.cl (.agg [.int .i64 48,.sli .u8 qa6,.slg 3 l])] []))
 | _,_=>none
def BVRSeq:Nat->Ct:=tb 24 KVKids BVKids
def KVRBox:Ct:=fun
 | [.cl (.int .i64 g),.cl (.slg 3 l)],[]=>some (qbw l,.leaf (.ret [.cl (.agg [.int .i64 ((vBox g l).1),.sli .u8 qa6,.slg 3 ((vBox g l).2.1)]),.cl (.int .i64 ((vBox g l).2.2))] []))
 | _,_=>none
def BVRBox:Nat->Ct:=tb 64 KVRSeq BVRSeq
def KAAll:Ct:=fun
 | [],[]=>some (true,.leaf (.ret [.cl (.fn (.func 175) [] [])] []))
 | _,_=>none
def BAAll:Nat->Ct:=tb 130 KVRBox BVRBox
def SAFound:LV->List Obj->Tree:=fun xs obs=>match xs,obs with
 | [.cl (.int .i64 g)],[]=>.leaf (.ret [.cl (.agg [.int .i64 ((qa1 g).1),.int .i64 ((qa1 g).2.1),.sli .u32 ((qa1 g).2.2)])] [])
 | _,_=>.fail
def qz1:LV->List Obj->Bool:=fun xs obs=>match xs,obs with
 | [.cl (.int .i64 g)],[]=>true
 | _,_=>false
def BAFound:Nat->Ct:=tb 138 KAAll BAAll
def KAGroup:Ct:=fun
 | [.cl (.int .i64 g)],[]=>some (true,.leaf (.ret [.cl (.int .i64 ((qa1 g).2.1))] []))
 | _,_=>none
def BAGroup:Nat->Ct:=tb 116 (ofS qz1 SAFound) BAFound
def KAId:Ct:=fun
 | [.cl (.int .i64 g)],[]=>some (true,.leaf (.ret [.cl (.sli .u32 ((qa1 g).2.2))] []))
 | _,_=>none
def BAId:Nat->Ct:=tb 96 KAGroup BAGroup
def SAOf:LV->List Obj->Tree:=fun xs obs=>match xs,obs with
 | [.cl (.sli .u32 o)],[]=>.leaf (.ret [.cl (.int .i64 (qhf o))] [])
 | _,_=>.fail
def xbu7:LV->List Obj->Bool:=fun xs obs=>match xs,obs with
 | [.cl (.sli .u32 o)],[]=>true
 | _,_=>false
def BAOf:Nat->Ct:=tb 164 KAId BAId
def KARGroup:Ct:=fun
 | [.cl (.int .i64 g)],[]=>some (true,.leaf (.ret [.cl (.int .i64 ((qa1 g).2.1))] []))
 | _,_=>none
def BARGroup:Nat->Ct:=tb 94 (ofS xbu7 SAOf) BAOf
def KARNist:Ct:=fun
 | [.cl (.int .u32 g),.cl (.int .u32 h)],[]=>some (true,.leaf (.ret [.cl (.sli .u32 (qj5 g h))] []))
 | _,_=>none
def BARNist:Nat->Ct:=tb 108 KARGroup BARGroup
def KARPkcs:Ct:=fun
 | [.cl (.sli .u32 o)],[]=>some (qdu o,.leaf (.ret [.cl (.sli .u32 (qvq o))] []))
 | _,_=>none
def BARPkcs:Nat->Ct:=tb 151 KARNist BARNist
def KARId:Ct:=fun
 | [.cl (.int .i64 g)],[]=>some (true,.leaf (.ret [.cl (.sli .u32 ((qa1 g).2.2))] []))
 | _,_=>none
def BARId:Nat->Ct:=tb 152 KARPkcs BARPkcs
def KAUsed:Ct:=fun
 | [.cl (.int .i64 g)],[]=>some (true,.leaf (.ret [.cl (.int .i64 (qj7 g))] []))
 | _,_=>none
def BAUsed:Nat->Ct:=tb 110 KARId BARId
def KANode:Ct:=fun
 | [.cl (.int .i64 g),.cl (.sli .u8 b)],[]=>some (qdu b,.leaf (.ret [.cl (.agg [.int .i64 ((qbs g b).1),.sli .u8 qa6,.slg 3 ((qbs g b).2.1)]),.cl (.int .i64 ((qbs g b).2.2))] []))
 | _,_=>none
def BANode:Nat->Ct:=tb 117 KAUsed BAUsed
def KARNode:Ct:=fun
 | [.cl (.int .i64 g),.cl (.sli .u8 b)],[]=>some (qdu b,.leaf (.ret [.cl (.agg [.int .i64 ((qbs g b).1),.sli .u8 qa6,.slg 3 ((qbs g b).2.1)]),.cl (.int .i64 ((qbs g b).2.2))] []))
 | _,_=>none
def BARNode:Nat->Ct:=tb 69 KANode BANode
def KATail:Ct:=fun
 | [.cl (.int .i64 g),.cl (.slg 3 l)],[]=>some (q6q l,.leaf (.ret [.cl (.sli .u8 ((qcy g l).1)),.cl (.bool ((qcy g l).2))] []))
 | _,_=>none
def BATail:Nat->Ct:=tb 63 KARNode BARNode
def KARead:Ct:=fun
 | [.cl (.agg [.int .i64 t,.sli .u8 b,.slg 3 k])],[]=>some (isS [.int .i64 t,.sli .u8 b,.slg 3 k],.leaf (.ret [.cl (.int .i64 ((qb2 t b k).1)),.cl (.sli .u8 ((qb2 t b k).2.1)),.cl (.int .i64 ((qb2 t b k).2.2))] []))
 | _,_=>none
def BARead:Nat->Ct:=tb 95 KATail BATail
def KMSize:Ct:=fun
 | [.cl (.int .i64 k)],[]=>some (true,.leaf (.ret [.cl (.int .i64 (qqm k))] []))
 | _,_=>none
def BMSize:Nat->Ct:=tb 55 KARead BARead
def KR9Size:Ct:=fun
 | [.cl (.int .i64 k)],[]=>some (true,.leaf (.ret [.cl (.int .i64 (qqm k))] []))
 | _,_=>none
def BR9Size:Nat->Ct:=tb 168 KMSize BMSize
def KFDig:Ct:=fun
 | [.cl (.sli .u8 b),.ptr 0 0 0],[⟨.var [.cl (.int .i64 s)],false⟩]=>some (qdu b,.leaf (.ret [.cl (.agg [.int .i64 4,.sli .u8 b,.slg 3 qcg]),.cl (.bool (decide ((b.length:Int)=s)))] [some ⟨.var [.cl (.int .i64 s)],false⟩]))
 | _,_=>none
def BFDig:Nat->Ct:=tb 131 KR9Size BR9Size
def KEDig:Ct:=fun
 | [.cl (.slg 1 l),.cl (.int .i64 lo),.cl (.int .i64 hi),.fn (.func 188) [] [.ptr 0 0 0]],[⟨.var [.cl (.int .i64 s)],false⟩]=>some (qvj l,.leaf (.ret [.cl (.slg 3 (dgL s lo hi l)),.cl (.bool (dgB s lo hi l))] [some ⟨.var [.cl (.int .i64 s)],false⟩]))
 | _,_=>none
def BEDig:Nat->Ct:=tb 188 KFDig BFDig
def xbrq:Ct:=fun
 | [.cl (.slg 1 l),.cl (.int .i64 lo),.cl (.int .i64 hi),.fn (.func 188) [] [.ptr 0 0 0]],[⟨.var [.cl (.int .i64 s)],false⟩]=>some (qvj l,.leaf (.ret [.cl (.agg [.int .i64 48,.sli .u8 qa6,.slg 3 (dgL s lo hi l)]),.cl (.bool (dgB s lo hi l))] [some ⟨.var [.cl (.int .i64 s)],false⟩]))
 | _,_=>none
def xbq1:Nat->Ct:=tb 194 KEDig BEDig
def KFPart:Ct:=fun
 | [.cl (.slg 1 l),.ptr 0 0 0],[⟨.var [.cl (.int .i64 s)],false⟩]=>some (qvj l,.leaf (.ret [.cl (.agg [.int .i64 48,.sli .u8 qa6,.slg 3 (dgL s 1 64 l)]),.cl (.bool (dgB s 1 64 l))] [some ⟨.var [.cl (.int .i64 s)],false⟩]))
 | _,_=>none
def BFPart:Nat->Ct:=tb 187 xbrq xbq1
def KEPart:Ct:=fun
 | [.cl (.int .i64 s)],[]=>some (true,.leaf (.ret [.fn (.func 186) [] [.ptr 0 0 0]] [some ⟨.var [.cl (.int .i64 s)],false⟩]))
 | _,_=>none
def BEPart:Nat->Ct:=tb 186 KFPart BFPart
def KEPar:Ct:=fun
 | [.cl (.slg 1 l),.cl (.int .i64 lo),.cl (.int .i64 hi),.fn (.func 186) [] [.ptr 0 0 0]],[⟨.var [.cl (.int .i64 s)],false⟩]=>some (quw l,.leaf (.ret [.cl (.slg 3 (xb15 s lo hi l)),.cl (.bool (xb14 s lo hi l))] [some ⟨.var [.cl (.int .i64 s)],false⟩]))
 | _,_=>none
def BEPar:Nat->Ct:=tb 167 KEPart BEPart
def xbcz:Ct:=fun
 | [.cl (.agg [.int .i64 d,.slg 1 t,.sli .u8 w])],[]=>some (quw t&&qad w,.leaf (.ret [.cl (.agg [.int .i64 ((q8j d t w).1),.sli .u8 qa6,.slg 3 ((q8j d t w).2)]),.cl (.bool (q2j d t w))] []))
 | _,_=>none
def xbcl:Nat->Ct:=tb 166 KEPar BEPar
def KEMar:Ct:=fun
 | [.cl (.slg 3 l),.cl (.int .i64 lo),.cl (.int .i64 hi),.cl (.fn (.func 127) [] [])],[]=>some (qps l,.leaf (.ret [.cl (.slg 3 (qt0 lo hi l)),.cl (.bool (qtz lo hi l))] []))
 | _,_=>none
def BEMar:Nat->Ct:=tb 127 xbcz xbcl
def xbrr:Ct:=fun
 | [.cl (.slg 3 l),.cl (.int .i64 lo),.cl (.int .i64 hi),.cl (.fn (.func 127) [] [])],[]=>some (qps l,.leaf (.ret [.cl (.agg [.int .i64 48,.sli .u8 qa6,.slg 3 (qt0 lo hi l)]),.cl (.bool (qtz lo hi l))] []))
 | _,_=>none
def xbq2:Nat->Ct:=tb 163 KEMar BEMar
def q39:Ct:=fun
 | [.cl (.slg 3 l)],[]=>some (qps l,.leaf (.ret [.cl (.agg [.int .i64 48,.sli .u8 qa6,.slg 3 (qt0 1 20 l)]),.cl (.bool (qtz 1 20 l))] []))
 | _,_=>none
def q3w:Nat->Ct:=tb 126 xbrr xbq2
def KECha:Ct:=fun
 | [.cl (.slg 1 l),.cl (.int .i64 lo),.cl (.int .i64 hi),.cl (.fn (.func 76) [] [])],[]=>some (qcb l,.leaf (.ret [.cl (.slg 3 (qs0 lo hi l)),.cl (.bool (qnm lo hi l))] []))
 | _,_=>none
def BECha:Nat->Ct:=tb 76 q39 q3w
def xbrp:Ct:=fun
 | [.cl (.slg 1 l),.cl (.int .i64 lo),.cl (.int .i64 hi),.cl (.fn (.func 76) [] [])],[]=>some (qcb l,.leaf (.ret [.cl (.agg [.int .i64 48,.sli .u8 qa6,.slg 3 (qs0 lo hi l)]),.cl (.bool (qnm lo hi l))] []))
 | _,_=>none
def xbq0:Nat->Ct:=tb 125 KECha BECha
def qxh:Ct:=fun
 | [.cl (.slg 1 l)],[]=>some (qcb l,.leaf (.ret [.cl (.agg [.int .i64 48,.sli .u8 qa6,.slg 3 (qs0 1 10 l)]),.cl (.bool (qnm 1 10 l))] []))
 | _,_=>none
def qw5:Nat->Ct:=tb 75 xbrp xbq0
def xbdm:LV->List Obj->Tree:=fun xs obs=>match xs,obs with
 | [.nils,.cl (.int .i64 n)],[]=>.leaf (.ret [.ref 0 0 0 true 3] [some ⟨.gen 3 qcg,false⟩])
 | _,_=>.fail
def qrw:LV->List Obj->Bool:=fun xs obs=>match xs,obs with
 | [.nils,.cl (.int .i64 n)],[]=>q2a n
 | _,_=>false
def xbnt:Nat->Ct:=tb 37 qxh qw5
def qxj:Ct:=fun
 | [.cl (.slg 1 l)],[]=>some (qcb l,.leaf (.ret [.cl (.slg 3 (xbw6 l))] []))
 | _,_=>none
def qw8:Nat->Ct:=tb 79 (ofS qrw xbdm) xbnt
def q4e:Ct:=fun
 | [.cl (.sli .i64 l),.cl (.int .i64 d)],[]=>some (qgc l,.leaf (.ret [.cl (.int .i64 (idxI l d))] []))
 | _,_=>none
def q36:Nat->Ct:=tb 40 qxj qw8
def xbrs:Ct:=fun
 | [.cl (.sli .i64 l),.cl (.int .i64 d)],[]=>some (qgc l,.leaf (.ret [.cl (.bool (hasI l d))] []))
 | _,_=>none
def xbq3:Nat->Ct:=tb 80 q4e q36
def xb5l:Ct:=fun
 | [.cl (.sli .i64 a),.cl (.sli .i64 b)],[]=>some (qgc a,.leaf (.ret [.cl (.bool (xbna a b))] []))
 | _,_=>none
def xb47:Nat->Ct:=tb 41 xbrs xbq3
def xbc0:Ct:=fun
 | [.cl (.sli .i64 a),.cl (.sli .i64 b)],[]=>some (qgc a,.leaf (.ret [.cl (.bool (xbna a b))] []))
 | _,_=>none
def xbcm:Nat->Ct:=tb 42 xb5l xb47
def KEDigests:Ct:=fun
 | [.cl (.slg 1 l)],[]=>some (qcb l,.leaf (.ret [.cl (.sli .i64 (q1t l))] []))
 | _,_=>none
def BEDigests:Nat->Ct:=tb 32 xbc0 xbcm
def KRDigests:Ct:=fun
 | [.cl (.slg 1 l)],[]=>some (qcb l,.leaf (.ret [.cl (.sli .i64 (q1t l))] []))
 | _,_=>none
def BRDigests:Nat->Ct:=tb 21 KEDigests BEDigests
def xbri:Ct:=fun
 | [.cl (.int .i64 g)],[]=>some (true,.leaf (.ret [.cl (.agg [.int .i64 ((qbs g qa6).1),.sli .u8 qa6,.slg 3 ((qbs g qa6).2.1)]),.cl (.bool (decide ((qbs g qa6).2.2=0)))] []))
 | _,_=>none
def xbqt:Nat->Ct:=tb 17 KRDigests BRDigests
def KEAlg:Ct:=fun
 | [.cl (.sli .i64 l),.cl (.int .i64 lo),.cl (.int .i64 hi),.cl (.fn (.func 68) [] [])],[]=>some (qvk l,.leaf (.ret [.cl (.slg 3 (xbny lo hi l)),.cl (.bool (xbry lo hi l))] []))
 | _,_=>none
def BEAlg:Nat->Ct:=tb 68 xbri xbqt
def xbro:Ct:=fun
 | [.cl (.sli .i64 l),.cl (.int .i64 lo),.cl (.int .i64 hi),.cl (.fn (.func 68) [] [])],[]=>some (qvk l,.leaf (.ret [.cl (.agg [.int .i64 48,.sli .u8 qa6,.slg 3 (xbny lo hi l)]),.cl (.bool (xbry lo hi l))] []))
 | _,_=>none
def xbqz:Nat->Ct:=tb 115 KEAlg BEAlg
def KERec:Ct:=fun
 | [.cl (.agg [.sli .i64 g,.slg 1 c])],[]=>some (qgc g&&recO c,.leaf (.ret [.cl (.agg [.int .i64 ((qfy g c).1),.sli .u8 qa6,.slg 3 ((qfy g c).2)]),.cl (.bool (evOk g c))] []))
 | _,_=>none
def BERec:Nat->Ct:=tb 67 xbro xbqz
def KERFit:Ct:=fun
 | [.cl (.agg [.sli .i64 g,.slg 1 c])],[]=>some (qgc g&&recO c,.leaf (.ret [.cl (.bool (evOk g c))] []))
 | _,_=>none
def BERFit:Nat->Ct:=tb 35 KERec BERec
def KERBytes:Ct:=fun
 | [.cl (.agg [.sli .i64 g,.slg 1 c])],[]=>some (qgc g&&recO c,.leaf (.ret [.cl (.sli .u8 ((qfj g c).1)),.cl (.int .i64 ((qfj g c).2))] []))
 | _,_=>none
def BERBytes:Nat->Ct:=tb 15 KERFit BERFit
def KRMark:Ct:=fun
 | [.cl (.agg [.int .i64 d,.slg 1 t,.sli .u8 w])],[]=>some (quw t&&qad w,.leaf (.ret [.cl (.agg [.int .i64 ((q50 d t w).1),.sli .u8 qa6,.slg 3 ((q50 d t w).2)]),.cl (.bool (q2j d t w))] []))
 | _,_=>none
def BRMark:Nat->Ct:=tb 13 KERBytes BERBytes
def KRChains:Ct:=fun
 | [.cl (.slg 1 l)],[]=>some (qcb l,.leaf (.ret [.cl (.agg [.int .i64 ((qol l).1),.sli .u8 qa6,.slg 3 ((qol l).2)]),.cl (.bool (qnm 1 10 l))] []))
 | _,_=>none
def BRChains:Nat->Ct:=tb 78 KRMark BRMark
def KRRec:Ct:=fun
 | [.cl (.agg [.sli .i64 g,.slg 1 c])],[]=>some (qgc g&&recO c,.leaf (.ret [.cl (.agg [.int .i64 ((qfy g c).1),.sli .u8 qa6,.slg 3 ((qfy g c).2)]),.cl (.bool (evOk g c))] []))
 | _,_=>none
def BRRec:Nat->Ct:=tb 39 KRChains BRChains
def KRRFit:Ct:=fun
 | [.cl (.agg [.sli .i64 g,.slg 1 c])],[]=>some (qgc g&&recO c,.leaf (.ret [.cl (.bool (evOk g c))] []))
 | _,_=>none
def BRRFit:Nat->Ct:=tb 34 KRRec BRRec
def xbcy:Ct:=fun
 | [.cl (.agg [.int .i64 t,.sli .u8 b,.slg 3 k])],[]=>some (isS [.int .i64 t,.sli .u8 b,.slg 3 k],.leaf (.ret [.cl (.sli .u8 ((qa2 t b k).1)),.cl (.bool (decide ((qa2 t b k).2=0)))] []))
 | _,_=>none
def xbck:Nat->Ct:=tb 12 KRRFit BRRFit
def xbrf:Ct:=fun
 | [.cl (.slg 3 l),.cl (.int .i64 lo),.cl (.int .i64 hi),.cl (.fn (.func 143) [] [])],[]=>some (qhh l,.leaf (.ret [.cl (.slg 1 (q1l lo hi l)),.cl (.bool (q1j lo hi l))] []))
 | _,_=>none
def xbqq:Nat->Ct:=tb 143 xbcy xbck
def xbrl:Ct:=fun
 | [.cl (.agg [.int .i64 t,.sli .u8 b,.slg 3 k]),.cl (.int .i64 g),.cl (.fn (.func 143) [] [])],[]=>some (isS [.int .i64 t,.sli .u8 b,.slg 3 k],.leaf (.ret [.cl (.slg 1 (ldL g t b k)),.cl (.bool (ldB g t b k))] []))
 | _,_=>none
def xbqw:Nat->Ct:=tb 178 xbrf xbqq
def q4c:Ct:=fun
 | [.cl (.agg [.int .i64 t,.sli .u8 b,.slg 3 k])],[]=>some (isS [.int .i64 t,.sli .u8 b,.slg 3 k],.leaf (.ret [.cl (.slg 1 (ldL 48 t b k)),.cl (.bool (ldB 48 t b k))] []))
 | _,_=>none
def q3z:Nat->Ct:=tb 142 xbrl xbqw
def xbrh:Ct:=fun
 | [.cl (.slg 3 l),.cl (.int .i64 lo),.cl (.int .i64 hi),.cl (.fn (.func 99) [] [])],[]=>some (qhh l,.leaf (.ret [.cl (.slg 1 (qt9 lo hi l)),.cl (.bool (qt8 lo hi l))] []))
 | _,_=>none
def xbqs:Nat->Ct:=tb 99 q4c q3z
def xbrn:Ct:=fun
 | [.cl (.agg [.int .i64 t,.sli .u8 b,.slg 3 k]),.cl (.int .i64 g),.cl (.fn (.func 99) [] [])],[]=>some (isS [.int .i64 t,.sli .u8 b,.slg 3 k],.leaf (.ret [.cl (.slg 1 (lpL g t b k)),.cl (.bool (lpB g t b k))] []))
 | _,_=>none
def xbqy:Nat->Ct:=tb 141 xbrh xbqs
def q4a:Ct:=fun
 | [.cl (.agg [.int .i64 t,.sli .u8 b,.slg 3 k])],[]=>some (isS [.int .i64 t,.sli .u8 b,.slg 3 k],.leaf (.ret [.cl (.int .i64 ((qtm t b k).1)),.cl (.bool ((qtm t b k).2))] []))
 | _,_=>none
def q3x:Nat->Ct:=tb 98 xbrn xbqy
def q4b:Ct:=fun
 | [.cl (.agg [.int .i64 t,.sli .u8 b,.slg 3 k])],[]=>some (isS [.int .i64 t,.sli .u8 b,.slg 3 k],.leaf (.ret [.cl (.agg [.int .i64 ((markOf t b k).1),.slg 1 ((markOf t b k).2.1),.sli .u8 ((markOf t b k).2.2.1)]),.cl (.bool ((markOf t b k).2.2.2))] []))
 | _,_=>none
def q3y:Nat->Ct:=tb 100 q4a q3x
def xbrg:Ct:=fun
 | [.cl (.slg 3 l),.cl (.int .i64 lo),.cl (.int .i64 hi),.cl (.fn (.func 58) [] [])],[]=>some (qhh l,.leaf (.ret [.cl (.slg 3 (qt2 lo hi l)),.cl (.bool (qt1 lo hi l))] []))
 | _,_=>none
def xbqr:Nat->Ct:=tb 58 q4b q3y
def xbrm:Ct:=fun
 | [.cl (.agg [.int .i64 t,.sli .u8 b,.slg 3 k]),.cl (.int .i64 g),.cl (.fn (.func 58) [] [])],[]=>some (isS [.int .i64 t,.sli .u8 b,.slg 3 k],.leaf (.ret [.cl (.slg 3 (lmL g t b k)),.cl (.bool (lmB g t b k))] []))
 | _,_=>none
def xbqx:Nat->Ct:=tb 97 xbrg xbqr
def qxg:Ct:=fun
 | [.cl (.agg [.int .i64 t,.sli .u8 b,.slg 3 k])],[]=>some (isS [.int .i64 t,.sli .u8 b,.slg 3 k],.leaf (.ret [.cl (.slg 3 (lmL 48 t b k)),.cl (.bool (lmB 48 t b k))] []))
 | _,_=>none
def qw4:Nat->Ct:=tb 57 xbrm xbqx
def xbre:Ct:=fun
 | [.cl (.slg 3 l),.cl (.int .i64 lo),.cl (.int .i64 hi),.cl (.fn (.func 29) [] [])],[]=>some (qhh l,.leaf (.ret [.cl (.slg 1 (qno lo hi l)),.cl (.bool (qnn lo hi l))] []))
 | _,_=>none
def xbqp:Nat->Ct:=tb 29 qxg qw4
def xbrk:Ct:=fun
 | [.cl (.agg [.int .i64 t,.sli .u8 b,.slg 3 k]),.cl (.int .i64 g),.cl (.fn (.func 29) [] [])],[]=>some (isS [.int .i64 t,.sli .u8 b,.slg 3 k],.leaf (.ret [.cl (.slg 1 (lcL g t b k)),.cl (.bool (lcB g t b k))] []))
 | _,_=>none
def xbqv:Nat->Ct:=tb 56 xbre xbqp
def xbcx:Ct:=fun
 | [.cl (.agg [.int .i64 t,.sli .u8 b,.slg 3 k])],[]=>some (isS [.int .i64 t,.sli .u8 b,.slg 3 k],.leaf (.ret [.cl (.int .i64 ((qb2 t b k).1)),.cl (.bool (decide ((qb2 t b k).2.2=0)))] []))
 | _,_=>none
def xbcj:Nat->Ct:=tb 28 xbrk xbqv
def xbrd:Ct:=fun
 | [.cl (.slg 3 l),.cl (.int .i64 lo),.cl (.int .i64 hi),.cl (.fn (.func 27) [] [])],[]=>some (qhh l,.leaf (.ret [.cl (.sli .i64 (q1a lo hi l)),.cl (.bool (q08 lo hi l))] []))
 | _,_=>none
def xbqo:Nat->Ct:=tb 27 xbcx xbcj
def xbrj:Ct:=fun
 | [.cl (.agg [.int .i64 t,.sli .u8 b,.slg 3 k]),.cl (.int .i64 g),.cl (.fn (.func 27) [] [])],[]=>some (isS [.int .i64 t,.sli .u8 b,.slg 3 k],.leaf (.ret [.cl (.sli .i64 (laL g t b k)),.cl (.bool (laB g t b k))] []))
 | _,_=>none
def xbqu:Nat->Ct:=tb 54 xbrd xbqo
def KEParse:Ct:=fun
 | [.cl (.sli .u8 b)],[]=>some (qad b&&b6w b,.leaf (.ret [.cl (.agg [.sli .i64 ((qfz b).1),.slg 1 ((qfz b).2.1)]),.cl (.int .i64 ((qfz b).2.2))] []))
 | _,_=>none
def BEParse:Nat->Ct:=tb 26 xbrj xbqu
def KR4Same:Ct:=fun
 | [.cl (.slg 1 a),.cl (.slg 1 b)],[]=>some (qvj a&&qvj b,.leaf (.ret [.cl (.bool (qp3 a b))] []))
 | _,_=>none
def BR4Same:Nat->Ct:=tb 8 KEParse BEParse
def KR38Same:Ct:=fun
 | [.cl (.slg 1 a),.cl (.slg 1 b)],[]=>some (quw a&&quw b,.leaf (.ret [.cl (.bool (qnd a b))] []))
 | _,_=>none
def BR38Same:Nat->Ct:=tb 62 KR4Same BR4Same
def KRESame:Ct:=fun
 | [.cl (.agg [.sli .i64 g,.slg 1 c]),.cl (.agg [.sli .i64 h,.slg 1 e])],[]=>some (qgc g&&(qcb c&&qcb e),.leaf (.ret [.cl (.bool (xbel g c h e))] []))
 | _,_=>none
def BRESame:Nat->Ct:=tb 33 KR38Same BR38Same
def KRESmall:Ct:=fun
 | [.cl (.agg [.sli .i64 g,.slg 1 c]),.cl (.int .i64 n)],[]=>some (recT g c&&q5v n,.leaf (.ret [.cl (.int .i64 (qqg g c n))] []))
 | _,_=>none
def BRESmall:Nat->Ct:=tb 10 KRESame BRESame
def KWSmall:Ct:=fun
 | [.cl (.agg [.sli .i64 g,.slg 1 c])],[]=>some (recT g c,.leaf (.ret [.cl (.bool (xbsi g c))] []))
 | _,_=>none
def BWSmall:Nat->Ct:=tb 16 KRESmall BRESmall
def KWAwake:Ct:=fun
 | [],[]=>some (true,.leaf (.ret [.cl (.bool true)] []))
 | _,_=>none
def BWAwake:Nat->Ct:=tb 11 KWSmall BWSmall
def qxf:Ct:=fun
 | [.cl (.agg [.int .i64 t,.sli .u8 b,.slg 3 k])],[]=>some (isW [.int .i64 t,.sli .u8 b,.slg 3 k],.leaf (.ret [.ref 0 0 ((qef [.int .i64 t,.sli .u8 b,.slg 3 k]).1.length) true 1,.cl (.bool ((qef [.int .i64 t,.sli .u8 b,.slg 3 k]).2))] [some ⟨.ints .u8 ((qef [.int .i64 t,.sli .u8 b,.slg 3 k]).1),false⟩]))
 | _,_=>none
def q3v:Nat->Ct:=tb 7 KWAwake BWAwake
def qxe:Ct:=fun
 | [.cl (.agg [.int .i64 t,.sli .u8 b,.slg 3 k])],[]=>some (isS [.int .i64 t,.sli .u8 b,.slg 3 k],.leaf (.ret [.ref 0 0 ((qbb [.int .i64 t,.sli .u8 b,.slg 3 k]).1.length) true 1,.cl (.int .i64 ((qbb [.int .i64 t,.sli .u8 b,.slg 3 k]).2))] [some ⟨.ints .u8 ((qbb [.int .i64 t,.sli .u8 b,.slg 3 k]).1),false⟩]))
 | _,_=>none
def q3u:Nat->Ct:=tb 74 qxf q3v
def qq3:Ct:=fun
 | [.cl (.agg [.sli .i64 g,.slg 1 c])],[]=>some (qgc g&&recO c,.leaf (.ret [.ref 0 0 ((qfj g c).1.length) true 1,.cl (.int .i64 ((qfj g c).2))] [some ⟨.ints .u8 ((qfj g c).1),false⟩]))
 | _,_=>none
def qw6:Nat->Ct:=tb 36 qxe q3u
def SWBack:LV->List Obj->Tree:=fun xs obs=>match xs,obs with
 | [.cl (.agg [.sli .i64 g,.slg 1 c]),.cl (.sli .u8 b)],[]=>.leaf (.ret [.cl (.bool true)] [])
 | _,_=>.fail
def qna:LV->List Obj->Bool:=fun xs obs=>match xs,obs with
 | [.cl (.agg [.sli .i64 g,.slg 1 c]),.cl (.sli .u8 b)],[]=>recT g c&&qpd b
 | _,_=>false
def BWBack:Nat->Ct:=tb 13 qq3 qw6
end
end Go.Proofs.YtoaakappnhemiaaGreatDoorA
