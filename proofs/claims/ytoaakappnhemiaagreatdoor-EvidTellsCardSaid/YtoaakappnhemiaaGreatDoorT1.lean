/-
 Times as plain functions: what the stamp layer computes. Conditions: none.
-/
import Derived.Test.YtoaakappnhemiaaGreatDoorK3
import Derived.Lib.ItoaMem
import Derived.Lib.ParseIntB
import Derived.Lib.Split
import Derived.Lib.CountLaws
import Derived.Lib.IndexBytes
import Derived.Lib.Join
import Derived.Lib.LaidTab
import Derived.Test.YtoaakappnhemiaaGreatDoorProg
set_option linter.unusedVariables false
set_option linter.unusedSimpArgs false
set_option maxRecDepth 100000
namespace Go.Proofs.YtoaakappnhemiaaGreatDoorA
noncomputable section
abbrev zR(l:List V)(o:List (Option Obj)):Option Out:=some (.ret l o)
abbrev zvi(n:Int):V:=.cl (.int .i64 n)
abbrev zvl(l:List Int):V:=.cl (.sli .u8 l)
abbrev zvg(l:List CV):V:=.cl (.slg 3 l)
abbrev zvb(b:Bool):V:=.cl (.bool b)
abbrev zB(b:Bool):Option Out:=some (.ret [.cl (.bool b)] [])
abbrev zI(n:Int):Option Out:=some (.ret [.cl (.int .i64 n)] [])
def stOk (y:Int):Bool:=decide (1<=y/\y<=20000)
def qmg (y:Int):Bool:=decide (y % 4=0/\(y % 100≠0\/y % 400=0))
def qjd (y m:Int):Int:=if m=2 then(if qmg y=true then 29 else 28) else if m=4\/m=6\/m=9\/m=11 then 30 else 31
def qp3 (y m d h i s:Int):Bool:=decide ((1<=y/\y<=9999/\1<=m/\m<=12)/\(1<=d/\d<=qjd y m)/\0<=h/\h<24/\0<=i/\i<60/\0<=s/\s<60)
def qjk (y m:Int):Int:=if 1<=y/\y<=9999/\1<=m/\m<=12 then qjd y m else 0
def qen (y:Int):Int:=(y - 1)*365+(y - 1)/ 4 - (y - 1)/ 100+(y - 1)/ 400
def qd6 (y m:Int):Int:=if m<=2 then 31*(m - 1) else(153*(m - 3)+2)/ 5+59+(if qmg y=true then 1 else 0)
def qtu (y m d h i s:Int):Int:= -62135596800+(qen y+qd6 y m+(d - 1))*86400+(h*3600+i*60+s)
def qz6 (t:Int):Bool:=decide (-9223372036854775808<=t/\t<=9223372036854775807)
def qpg (a b:Int):Int:=if a<48\/57<a\/b<48\/57<b then -100000 else 10*(a - 48)+(b - 48)
def qfs (s:ByteArray):Int:=qpg (bget s 0) (bget s 1)
def quy:List Int->Int->Int
 | [],n=>n
 | c::r,n=>if c<48\/57<c then -1 else quy r (n*10+(c - 48))
def qdz (s:ByteArray):Int:=quy (bytesOf s) 0
def qo9 (s:ByteArray):Int×Int:=
 if s.size=15/\bget s 14=90 then
  let y:=qpg (bget s 2) (bget s 3)+100*qpg (bget s 0) (bget s 1)
  let m:=qpg (bget s 4) (bget s 5)
  let d:=qpg (bget s 6) (bget s 7)
  let h:=qpg (bget s 8) (bget s 9)
  let i:=qpg (bget s 10) (bget s 11)
  let c:=qpg (bget s 12) (bget s 13)
  if qp3 y m d h i c=true then(qtu y m d h i c,0) else(0,1)
 else(0,1)
abbrev LI:=List Int
abbrev LC:=List CV
abbrev OO:=Option Out
abbrev KT:=Ex->St->Option Out
def xbob (x:Int):Bool:=decide (0<=x/\x<=255)
def qad (b:List Int):Bool:=shut (decide (b.length<=1000000)&&b.all xbob)
def qcc (b:List Int):Bool:=shut (decide (b.length<=100000000))
def u32Ok (n:Int):Bool:=shut (decide (0<=n/\n<=4294967295))
def qck (n:Int):Bool:=shut (decide (0<=n/\n<=1000))
def qkw (a b:List Int):Bool:=decide (a=b)
def qbl (a b:List Int):Bool:=shut (qkw a b)
def qbo:List Int->List Int->Int
 | [],[]=>0
 | [],_::_=> -1
 | _::_,[]=>1
 | x::a,y::b=>if x<y then -1 else if y<x then 1 else qbo a b
def qha (a b:List Int):Int:=shut (qbo a b)
def qec (a b:List Int):Bool:=shut (decide (qbo a b<0))
def qa1 (b:List Int):Int:=b.foldl (fun n x=>n*256+x) 0
def qhd (b:List Int):Int:=shut (qa1 b)
def qaq (tag:Int):Bool:=decide (tag=48\/tag=49\/(160<=tag/\tag<=190))
def qbn (tag:Int):Bool:=shut (qaq tag)
def qbf (tag:Int):Bool:=decide (tag=1\/tag=2\/tag=3\/tag=4\/tag=5\/tag=6\/tag=12\/tag=24)|| (qaq tag|| decide (128<=tag/\tag<=158))
def qdy (tag:Int):Bool:=shut (qbf tag)
def qax (n:Int):Int:=if n<128 then 1 else if n<256 then 2 else if n<65536 then 3 else 4
def qb6 (n:Int):Int:=shut (qax n)
def qju:List Int->Bool
 | []=>false
 | [_]=>true
 | x::y::_=> !(decide (x=0/\y<128))&& !(decide (x=255/\128<=y))
def qfu (b:List Int):Bool:=shut (qju b)
def qqy:List Int->Bool
 | []=>false
 | [x]=>decide (x=0)
 | x::y::r=>decide (x<=7)&&decide ((y::r).getLast (by simp) % 2 ^ x.toNat=0)
def qjc (b:List Int):Bool:=shut (qqy b)
def u8At (l:List Int) (k:Nat):Bool:=match l[k]? with|some x=>decide (128<=x/\x<192)|none=>false
def u8Cont (b:List Int) (i:Int):Bool:=shut (u8At b i.toNat)
def qdi:List Int->Int
 | []=>0
 | c::r=>
  if c<128 then 1
  else if 194<=c/\c<=223/\u8At r 0=true then 2
  else if 224<=c/\c<=239/\u8At r 0=true/\u8At r 1=true/\(c=224->160<=r.headD 0)/\(c=237->r.headD 0<160) then 3
  else if 240<=c/\c<=244/\u8At r 0=true/\u8At r 1=true/\u8At r 2=true/\(c=240->144<=r.headD 0)/\(c=244->r.headD 0<144) then 4
  else 0
def u8Rune (b:List Int) (i:Int):Int:=shut (qdi (b.drop i.toNat))
def qi2:Nat->List Int->Bool
 | 0,_=>true
 | n+1,l=>if l=[] then true else if qdi l=0 then false else qi2 n (l.drop (qdi l).toNat)
def qcn (l:List Int):Bool:=qi2 l.length l
def u8Valid (b:List Int):Bool:=shut (qcn b)
def xbnp (l:List Int):Int:=
 ((l.getD 0 0).toNat||| (l.getD 1 0).toNat*2 ^ 8||| (l.getD 2 0).toNat*2 ^ 16||| (l.getD 3 0).toNat*2 ^ 24||| (l.getD 4 0).toNat*2 ^ 32||| (l.getD 5 0).toNat*2 ^ 40||| (l.getD 6 0).toNat*2 ^ 48||| (l.getD 7 0).toNat*2 ^ 56:Nat)
def u8Word (b:List Int):Int:=shut (xbnp b)
def qhh:List Int:=List.replicate 128 240++List.replicate 66 241++List.replicate 30 2++[19]++List.replicate 12 3++[35]++List.replicate 2 3++[52]++List.replicate 3 4++[68]++List.replicate 11 241
def qk0:List CV:=([(128,191),(160,191),(128,159),(144,191),(128,143)]++List.replicate 11 (0,0):List (Int×Int)).map fun p=>.agg [.int .u8 p.1,.int .u8 p.2]
def u8First:List Int:=shut qhh
def u8Accept:List CV:=shut qk0
def qcq:List Int->Bool
 | x::y::r=>decide (r.length<=18)&&(decide (x<2/\y<40)|| decide (x=2/\y<=4294967215))
 | _=>false
def qkf (o:List Int):Bool:=shut (qcq o)
def qeq (n:Int):List Int:=if n<80 then[n/ 40,n % 40] else[2,n - 80]
def qgs (n:Int):List Int:=shut (qeq n)
def qcg:Int->Int->List Int->Int×Int
 | _,_,[]=>(0,0)
 | n,i,c::r=>if(i=0/\c=128)\/33554431<n then(0,0) else if c<128 then(n*128+c,i+1) else qcg (n*128+(c - 128)) (i+1) r
def qao (b:List Int):Int×Int:=qcg 0 0 b
def qf4 (b:List Int):Int×Int:=shut (qao b)
def qep:Nat->List Int->List (Int×Bool)
 | 0,_=>[]
 | n+1,b=>if b=[] then[] else if(qao b).2=0 then[((qao b).1,false)] else((qao b).1,true)::qep n (b.drop (qao b).2.toNat)
def qim (b:List Int):List (Int×Bool):=qep b.length b
def quv (b:List Int):List (Int×Bool):=shut (qim b)
def qrb (l:List (Int×Bool)):List (List CV):=shut (l.map fun p=>[.int .u32 p.1,.bool p.2])
def xbhl:List (Int×Bool)->List Int->Option (List Int)
 | [],o=>some o
 | (n,ok)::r,o=>if ok=false\/20<o.length then none else if o=[] then xbhl r (qeq n) else xbhl r (o++[n])
def qmw (b:List Int):List Int×Int:=match xbhl (qim b) [] with
 | some o=>if qcq o=true then(o,0) else([],5)
 | none=>([],5)
def qdm (b:List Int):List Int×Int:=shut (qmw b)
def qbk (tag:Int) (b:List Int):Bool:=
 if tag=1 then decide (b=[0]\/b=[255])
 else if tag=2 then qju b
 else if tag=3 then qqy b
 else if tag=5 then decide (b=[])
 else if tag=6 then decide ((qmw b).2=0)
 else if tag=12 then qcn b
 else if tag=24 then decide ((qo9 (xbhj b)).2=0)
 else true
def qcu (tag:Int) (b:List Int):Bool:=shut (qbk tag b)
def qac:List Int->Int×Int
 | []=>(0,0)
 | c::t=>if c<128 then(c,1) else if c=128\/131<c\/(t.length:Int)<c - 128 then(0,0)
  else if t.headD 0=0\/qa1 (t.take (c - 128).toNat)<128 then(0,0) else(qa1 (t.take (c - 128).toNat),1+(c - 128))
def qg3 (b:List Int):Int×Int:=shut (qac b)
def qpm (l:List Int):Bool:=shut (!(decide ((qac l).2=0)))
def qej (l:List Int):Int×List Int:=shut ((qac l).1,l.drop (qac l).2.toNat)
def qkd:List Int->List Int
 | []=>[]
 | c::t=>if c=128\/131<c then t else t.drop (c - 128).toNat
def qg4 (l:List Int):List Int:=shut (qkd l)
abbrev Nd:=Int×List Int×List CV
def nd0:Nd:=(0,[],[])
def ndCV (x:Nd):CV:=.agg [.int .i64 x.1,.sli .u8 x.2.1,.slg 3 x.2.2]
def qa5:List (List Int)->Bool
 | a::b::r=>decide (qbo a b<=0)&&qa5 (b::r)
 | _=>true
def rowB (l:List Int):Bool:=decide (l.length<=1000000)&&l.all xbob
def xbw8:CV->Bool
 | .sli .u8 l=>rowB l
 | _=>false
def qh2 (l:List CV):Bool:=shut (decide (l.length<=1000000)&&l.all xbw8)
def qbt (l:List CV):Bool:=shut (qa5 (l.map qby))
def qdn (l:List CV):List Int:=shut (l.flatMap qby)
def qcl (f:List Int->Int×Nd×Int):Nat->List Int->Int×List Nd×List (List Int)
 | 0,_=>(0,[],[])
 | m+1,b=>if b=[] then(0,[],[]) else
  if(f b).1=0 then
   let p:=qcl f m (b.drop (f b).2.2.toNat)
   (p.1,(f b).2.1::p.2.1,b.take (f b).2.2.toNat::p.2.2)
  else((f b).1,[],[])
def qar:Nat->List Int->Int×Nd×Int
 | 0,_=>(3,nd0,0)
 | n+1,b=>match b with
  | []=>(1,nd0,0)
  | t::r=>if qbf t=false then(4,nd0,0)
   else if(qac r).2=0\/(r.length:Int) - (qac r).2<(qac r).1 then(1,nd0,0)
   else
    let inside:=(r.drop (qac r).2.toNat).take (qac r).1.toNat
    let used:=1+(qac r).2+(qac r).1
    if qaq t=false then(if qbk t inside=true then(0,(t,inside,[]),used) else(5,nd0,0))
    else
     let p:=qcl (qar n) inside.length inside
     if p.1=0 then(if t=49/\qa5 p.2.2=false then(6,nd0,0) else(0,(t,[],p.2.1.map ndCV),used)) else(p.1,nd0,0)
def qem (b:List Int) (d:Int):Nd×Int×Int:=shut (let p:=qar d.toNat b;if p.1=0 then(p.2.1,p.2.2,0) else(nd0,0,p.1))
def qwf (b:List Int):Nd×Int:=let p:=qar 32 b;if p.1=0 then(if p.2.2<b.length then(nd0,7) else(p.2.1,0)) else(nd0,p.1)
def qba (b:List Int):Nd×Int:=shut (qwf b)
def qjp (l:List Int) (d:Int):List Int:=
 if d<=0 then l else match l with
  | []=>[]
  | t::r=>if qbf t=false then r
   else if(qac r).2=0 then qkd r
   else if(r.length:Int) - (qac r).2<(qac r).1 then r.drop (qac r).2.toNat
   else r.drop ((qac r).2+(qac r).1).toNat
def qlz (l:List Int) (d:Int):Int×Nd×List Int:=shut ((qar d.toNat l).1,(qar d.toNat l).2.1,qjp l d)
def qbc (tag:Int) (b:List Int) (d:Int):Int×Nd:=shut (
 let p:=qcl (qar (d - 1).toNat) b.length b
 if p.1=0 then(if tag=49/\qa5 p.2.2=false then(6,nd0) else(0,(tag,[],p.2.1.map ndCV))) else(p.1,nd0))
def isNf:Nat->List CV->Bool
 | 0,_=>false
 | n+1,[.int .i64 _,.sli .u8 b,.slg 3 l]=>decide (b.length<=100000000)&&(decide (l.length<=100000000)&&l.all fun c=>match c with|.agg x=>isNf n x|_=>false)
 | _+1,_=>false
def isN (l:List CV):Bool:=shut (@decide (∃n,isNf n l=true) (Classical.propDecidable _))
def q1i (n:Int):Bool:=shut (decide (0<=n/\n<=100000000))
def qa0:List Int:=shut []
def q4n (n:Int):Bool:=shut (decide (0<=n/\n<=30000))
def qci (tag n:Int):List Int:=tag::(if n<128 then[n] else if n<256 then[129,n] else if n<65536 then[130,n/ 256,n % 256] else[131,n/ 65536,n/ 256 % 256,n % 256])
def qdg (tag n:Int):List Int:=shut (qci tag n)
def qlx (tag n:Int):Bool:=shut (decide ((0<=tag/\tag<=255)/\0<=n/\n<16777216))
def qog (l:List CV):Bool:=shut (decide (l.length<=1000000)&&(l.all xbw8&&decide ((l.flatMap qby).length<=1000000)))
def isTf:Nat->List CV->Bool
 | 0,_=>false
 | n+1,[.int .i64 _,.sli .u8 b,.slg 3 l]=>b.all xbob&&l.all fun c=>match c with|.agg x=>isTf n x|_=>false
 | _+1,_=>false
def qdr:Nat->List CV->Nat
 | n+1,[.int .i64 _,.sli .u8 b,.slg 3 l]=>1+b.length+(l.map fun c=>qdr n (cell1 c)).sum
 | _,_=>0
def okF:Nat->Nat->List CV->Bool
 | n+1,d+1,[.int .i64 t,.sli .u8 b,.slg 3 l]=>qbf t&&(if qaq t=true then decide (b=[])&&l.all fun c=>okF n d (cell1 c) else decide (l=[])&&qbk t b)
 | _,_,_=>false
def qak:Nat->List CV->List Int×Bool
 | n+1,[.int .i64 t,.sli .u8 b,.slg 3 l]=>
  if qaq t=true then
   let ks:=l.map fun c=>qak n (cell1 c)
   let bs:=ks.map (·.1)
   (qci t bs.flatten.length++bs.flatten,ks.all (·.2)&&(!(decide (t=49))|| qa5 bs))
  else(qci t b.length++b,true)
 | _,_=>([],false)
def rkOf (a:List CV):Nat:=@dite _ (∃n,isTf n a=true) (Classical.propDecidable _) (fun h=>Classical.choose h) (fun _=>0)
def q3l (a:List CV) (deep:Int):Int:=shut (if okF (rkOf a) deep.toNat a=true then((qak (rkOf a) a).1.length:Int) else -1)
def isSr (n:Nat) (a:List CV):Bool:=shut (isTf n a&&(decide (qdr n a<=30000)))
def isS (a:List CV):Bool:=shut (@decide (∃n,isTf n a=true/\qdr n a<=30000) (Classical.propDecidable _))
def isWr (n:Nat) (a:List CV):Bool:=shut (@decide (isTf n a=true/\qdr n a<=30000/\∃d,okF n d a=true) (Classical.propDecidable _))
def isW (a:List CV):Bool:=shut (@decide (∃n,isTf n a=true/\qdr n a<=30000/\∃d,okF n d a=true) (Classical.propDecidable _))
def qkp (a:List CV):List Int×Bool:=shut (if(qak (rkOf a) a).2=true then((qak (rkOf a) a).1,true) else([],false))
def qgr (a:List CV) (deep:Int):List Int×Bool:=shut (if okF (rkOf a) deep.toNat a=true/\(qak (rkOf a) a).2=true then((qak (rkOf a) a).1,true) else([],false))
def qbm (a:List CV):List Int×Int:=shut (if okF (rkOf a) 32 a=true/\(qak (rkOf a) a).2=true then((qak (rkOf a) a).1,0) else([],1))
def q1m (a:List CV):Bool:=shut (decide (okF (rkOf a) 32 a=true/\(qak (rkOf a) a).2=true))
def u32B (n:Int):Bool:=decide (0<=n/\n<=4294967295)
def qtx (o:List Int):Bool:=shut (decide (o.length<=1000)&&o.all u32B)
def u64Ok (n:Int):Bool:=shut (decide (0<=n/\n<=18446744073709551615))
def gHi:Nat->Int->List Int
 | 0,_=>[]
 | f+1,n=>if n=0 then[] else gHi f (n/ 128)++[128+n % 128]
def qbd (n:Int):List Int:=gHi 5 (n/ 128)++[n % 128]
def qbp (n:Int):List Int:=shut (qbd n)
def qfv (o:List Int):List Int:=if qcq o=true then(match o with|x::y::r=>qbd (40*x+y)++r.flatMap qbd|_=>[]) else[]
def qa3 (o:List Int):List Int:=shut (qfv o)
def qb7:List CV:=shut []
def num8 (b:List Int):Bool:=shut (decide (b.length<=8)&&b.all xbob)
def vLeC (n:Int):List Int:=[n % 256,n/ 256 % 256,n/ 65536 % 256,n/ 16777216 % 256,n/ 4294967296 % 256,n/ 1099511627776 % 256,n/ 281474976710656 % 256,n/ 72057594037927936 % 256]
def vLe (n:Int):List Int:=shut (vLeC n)
def vBe (n:Int):List Int:=shut (vLeC n).reverse
def vRev (l:List Int):List Int:=shut l.reverse
def xbzs (l:List Int):Bool:=shut (decide (l.length=8))
def xbnk:List Int->List Int
 | a::b::r=>if(a=0/\b<128)\/(a=255/\128<=b) then xbnk (b::r) else a::b::r
 | l=>l
def xb63 (n:Int):List Int:=xbnk (vLeC (n % 18446744073709551616)).reverse
def vInt (n:Int):List Int:=shut (xb63 n)
def xb3h (b:List Int):Int:=if 128<=b.headD 0 then qa1 b - 256 ^ b.length else qa1 b
def q4h (b:List Int):Int×Int:=if 8<b.length then(0,8) else(xb3h b,0)
def qpq (b:List Int):Int×Int:=shut (q4h b)
def quk (g t:Int) (b:List Int) (k:List CV):Int:=if t≠g then 4 else if k.length≠0\/qbk g b=false then 5 else 0
def qdo (t:Int) (b:List Int) (k:List CV):Int×Int:=shut (if quk 2 t b k=0 then q4h b else(0,quk 2 t b k))
def qp0 (t:Int) (b:List Int) (k:List CV):List Int×Int:=shut (if quk 6 t b k=0 then qdm b else([],quk 6 t b k))
def qbb (t:Int) (b:List Int) (k:List CV):List Int×Int:=shut (if quk 4 t b k=0 then(b,0) else([],quk 4 t b k))
def xbjb (g:Int) (b:List Int):Int×List Int×Int:=if qbk g b=true then(g,b,0) else(0,[],5)
def qfy (g:Int) (b:List Int):Int×List Int×Int:=shut (xbjb g b)
def qq3 (g:Int) (b:List Int):Bool:=shut (decide ((g=12\/g=6\/g=24)/\b.length<=2000)&&b.all xbob)
def idOk (o:List Int):Bool:=shut (decide (o.length<=50)&&o.all u32B)
def xb6f (g:Int) (l:List CV):Int×List CV×Int:=if 0<=g/\g<=30 then(160+g,l,0) else(0,[],8)
def vBox (g:Int) (l:List CV):Int×List CV×Int:=shut (xb6f g l)
def q3t (g t:Int) (b:List Int) (k:List CV):List CV×Int:=if t≠g\/qaq g=false then([],4) else if b.length≠0 then([],5) else(k,0)
def qb8 (g t:Int) (b:List Int) (k:List CV):List CV×Int:=shut (q3t g t b k)
def qbr (l:List CV):Bool:=shut (decide (l.length<=100000000))
def xbe1:CV:=.agga 11 6 [.agg [.int .i64 1,.int .i64 3,.int .i64 1,.int .i64 0,.int .i64 1,.int .i64 1],.agg [.int .i64 4,.int .i64 2,.int .i64 1,.int .i64 0,.int .i64 8,.int .i64 2],.agg [.int .i64 6,.int .i64 2,.int .i64 1,.int .i64 0,.int .i64 11,.int .i64 1],.agg [.int .i64 11,.int .i64 3,.int .i64 2,.int .i64 1,.int .i64 17,.int .i64 1],.agg [.int .i64 33,.int .i64 2,.int .i64 2,.int .i64 5,.int .i64 1,.int .i64 1],.agg [.int .i64 41,.int .i64 1,.int .i64 2,.int .i64 4,.int .i64 17,.int .i64 1],.agg [.int .i64 51,.int .i64 3,.int .i64 3,.int .i64 2,.int .i64 1,.int .i64 1],.agg [.int .i64 61,.int .i64 3,.int .i64 4,.int .i64 4,.int .i64 28,.int .i64 1],.agg [.int .i64 71,.int .i64 3,.int .i64 5,.int .i64 3,.int .i64 5,.int .i64 20],.agg [.int .i64 81,.int .i64 3,.int .i64 6,.int .i64 3,.int .i64 2,.int .i64 20],.agg [.int .i64 91,.int .i64 3,.int .i64 7,.int .i64 3,.int .i64 6,.int .i64 20]]
def qhi:List (Int×Int×List Int):=[(1,1,[2,16,840,1,101,3,4,2,1]),
 (2,1,[2,16,840,1,101,3,4,2,2]),
 (3,1,[2,16,840,1,101,3,4,2,3]),
 (4,1,[2,16,840,1,101,3,4,2,8]),
 (5,1,[2,16,840,1,101,3,4,2,10]),
 (6,1,[2,16,840,1,101,3,4,2,11]),
 (7,1,[2,16,840,1,101,3,4,2,12]),
 (11,2,[2,16,840,1,101,3,4,3,17]),
 (12,2,[2,16,840,1,101,3,4,3,18]),
 (13,2,[2,16,840,1,101,3,4,3,19]),
 (33,2,[2,999,1]),
 (34,2,[2,999,2]),
 (41,2,[1,2,840,113549,1,9,16,3,17]),
 (51,3,[2,16,840,1,101,3,4,4,1]),
 (52,3,[2,16,840,1,101,3,4,4,2]),
 (53,3,[2,16,840,1,101,3,4,4,3]),
 (61,4,[1,2,840,113549,1,9,16,3,28]),
 (62,4,[1,2,840,113549,1,9,16,3,29]),
 (63,4,[1,2,840,113549,1,9,16,3,30]),
 (71,5,[2,16,840,1,101,3,4,1,5]),
 (72,5,[2,16,840,1,101,3,4,1,25]),
 (73,5,[2,16,840,1,101,3,4,1,45]),
 (81,6,[2,16,840,1,101,3,4,1,2]),
 (82,6,[2,16,840,1,101,3,4,1,22]),
 (83,6,[2,16,840,1,101,3,4,1,42]),
 (91,7,[2,16,840,1,101,3,4,1,6]),
 (92,7,[2,16,840,1,101,3,4,1,26]),
 (93,7,[2,16,840,1,101,3,4,1,46]),
 (21,2,[2,16,840,1,101,3,4,3,20]),
 (22,2,[2,16,840,1,101,3,4,3,26]),
 (23,2,[2,16,840,1,101,3,4,3,21]),
 (24,2,[2,16,840,1,101,3,4,3,27]),
 (25,2,[2,16,840,1,101,3,4,3,22]),
 (26,2,[2,16,840,1,101,3,4,3,28]),
 (27,2,[2,16,840,1,101,3,4,3,23]),
 (28,2,[2,16,840,1,101,3,4,3,29]),
 (29,2,[2,16,840,1,101,3,4,3,24]),
 (30,2,[2,16,840,1,101,3,4,3,30]),
 (31,2,[2,16,840,1,101,3,4,3,25]),
 (32,2,[2,16,840,1,101,3,4,3,31])]
def qpw:List (List CV):=shut (qhi.map fun e=>[.agg [.int .i64 e.1,.int .i64 e.2.1,.sli .u32 e.2.2]])
def qaw (g:Int):Int×Int×List Int:=(qhi.find? fun e=>decide (e.1=g)).getD (0,0,[])
def qa4 (g:Int):Int×Int×List Int:=shut (qaw g)
def xbvw (o:List Int):Int:=((qhi.find? fun e=>decide (e.2.2=o)).getD (0,0,[])).1
def q1k (o:List Int):Int:=shut (xbvw o)
def qjl (g h:Int):List Int:=shut [2,16,840,1,101,3,4,g,h]
def qup (o:List Int):List Int:=shut ([1,2,840,113549,1]++o)
def qhg (g:Int):Int:=if g=6 then 16 else if g=7 then 12 else 0
def qjm (g:Int):Int:=shut (qhg g)
def qcy (t:Int) (b:List Int) (k:List CV):CV:=.agg [.int .i64 t,.sli .u8 b,.slg 3 k]
def q48 (o:List Int):CV:=qcy (qfy 6 (qa3 o)).1 (qfy 6 (qa3 o)).2.1 []
def qin (g:Int) (b:List Int):Int×List CV×Int:=
 if(qaw g).2.1=0 then(0,[],9) else if(b.length:Int)≠qhg (qaw g).2.1 then(0,[],14)
 else(48,q48 (qaw g).2.2::(if(qaw g).2.1=6 then[qcy 4 b []] else if(qaw g).2.1=7 then[qcy 48 [] [qcy 4 b [],qcy 2 (vInt 16) []]] else[]),0)
def qbw (g:Int) (b:List Int):Int×List CV×Int:=shut (qin g b)
abbrev nT (c:CV):Int:=qfn ((cell1 c).headD .nili)
abbrev nB (c:CV):List Int:=qby ((cell1 c).tail.headD .nili)
abbrev nK (c:CV):List CV:=qbi ((cell1 c).tail.tail.headD .nili)
def algB (g:Int) (x:CV):List Int×Bool:=((qbb (nT x) (nB x) (nK x)).1,decide ((qbb (nT x) (nB x) (nK x)).2=0)&&decide (((qbb (nT x) (nB x) (nK x)).1.length:Int)=qhg g))
def xb4l (g:Int) (q p:CV):List Int×Bool:=if ¬(qdo (nT q) (nB q) (nK q)).2=0 then([],false) else if ¬(qdo (nT q) (nB q) (nK q)).1=16 then([],false) else algB g p
def algG (g:Int) (two:List CV):List Int×Bool:=if ¬(two.length:Int)=2 then([],false) else xb4l g (two.getD 1 .nili) (two.headD .nili)
def algH (g:Int) (x:CV):List Int×Bool:=if g=7 then(if ¬(qb8 48 (nT x) (nB x) (nK x)).2=0 then([],false) else algG g (qb8 48 (nT x) (nB x) (nK x)).1) else algB g x
def qyy (g:Int) (l:List CV):List Int×Bool:=
 if qhg g=0 then([],decide ((l.length:Int)=0)) else if ¬(l.length:Int)=1 then([],false) else algH g (l.headD .nili)
def qhr (g:Int) (l:List CV):List Int×Bool:=shut (qyy g l)
def q40 (l:List CV):Bool:=shut (@decide (∀c∈l, ∃t b k,c=.agg [.int .i64 t,.sli .u8 b,.slg 3 k]/\isS [.int .i64 t,.sli .u8 b,.slg 3 k]=true) (Classical.propDecidable _))
def xb4o (v:List Int×Int) (r:List CV):Int×List Int×Int:=if ¬v.2=0 then(0,[],1) else if q1k v.1=0 then(0,[],9) else if(qhr (qa4 (q1k v.1)).2.1 r).2=false then(0,[],1) else(q1k v.1,(qhr (qa4 (q1k v.1)).2.1 r).1,0)
def algR (ks:List CV):Int×List Int×Int:=if(ks.length:Int)=0 then(0,[],1) else xb4o (qp0 (nT (ks.headD .nili)) (nB (ks.headD .nili)) (nK (ks.headD .nili))) (ks.drop 1)
def q4b (t:Int) (b:List Int) (k:List CV):Int×List Int×Int:=if ¬(qb8 48 t b k).2=0 then(0,[],1) else algR (qb8 48 t b k).1
def qet (t:Int) (b:List Int) (k:List CV):Int×List Int×Int:=shut (q4b t b k)
def qn4:List (List Int):=[[0,0],[32,64],[48,128],[64,128],[32,136],[64,72],[32,168],[64,136]]
def qyg:CV:=.agga 8 2 (shut (qn4.map fun l=>.aggi 2 .i64 l))
def qbg (k:Int):Int:=if 0<=k/\k<8 then[0,32,48,64,32,64,32,64].getD k.toNat 0 else 0
def qp2 (k:Int):Int:=shut (qbg k)
abbrev mD (c:CV):Int:=qfn ((cell1 c).headD .nili)
abbrev mT (c:CV):List CV:=qbi ((cell1 c).tail.headD .nili)
abbrev mW (c:CV):List Int:=qby ((cell1 c).tail.tail.headD .nili)
def qv3 (d:Int) (t:List CV) (w:List Int):CV:=.agg [.int .i64 d,.slg 1 t,.sli .u8 w]
def b6k (b:List Int):Bool:=shut (decide (b.length<=6000))
def xbhz (l:List CV):Prop:=l.length<=1000000/\∀c∈l, ∃b,c=.sli .u8 b/\qad b=true
def xble (t:List CV):Prop:=t.length<=1000000/\∀c∈t, ∃l,c=.slg 1 l/\xbhz l
def isMk (c:CV):Prop:= ∃d t w,c=qv3 d t w/\xble t/\qad w=true
def qp9 (l:List CV):Prop:=l.length<=10000/\∀c∈l,isMk c
def qdh (l:List CV):Prop:=l.length<=10000/\∀c∈l, ∃m,c=.slg 3 m/\qp9 m
def qjw (l:List CV):Bool:=shut (@decide (xbhz l) (Classical.propDecidable _))
def qjr (l:List CV):Bool:=shut (@decide (xble l) (Classical.propDecidable _))
def qe6 (l:List CV):Bool:=shut (@decide (qp9 l) (Classical.propDecidable _))
def qa9 (l:List CV):Bool:=shut (@decide (qdh l) (Classical.propDecidable _))
def qgv (l:List CV):Bool:=shut (@decide (l.length<=1000000/\∀c∈l, ∃t b k,c=.agg [.int .i64 t,.sli .u8 b,.slg 3 k]/\isS [.int .i64 t,.sli .u8 b,.slg 3 k]=true) (Classical.propDecidable _))
def q1n (l:List CV):Nat:=(l.map fun c=>1+(qby c).length).sum
def qt8 (l:List CV):Nat:=(l.map fun c=>1+q1n (qbi c)).sum
def qgu (l:List CV):Nat:=(l.map fun c=>2+(mW c).length+qt8 (mT c)).sum
def qea (l:List CV):Nat:=(l.map fun c=>1+qgu (qbi c)).sum
def recO (l:List CV):Bool:=shut (@decide (qdh l/\qea l<=12100) (Classical.propDecidable _))
def evB {α β:Type} (f:α->Option β) (lo hi:Int) (l:List α):Bool:=decide (lo<=(l.length:Int)/\(l.length:Int)<=hi)&&l.all fun c=>(f c).isSome
def evL {α β:Type} (f:α->Option β) (lo hi:Int) (l:List α):List β:=if evB f lo hi l=true then l.filterMap f else[]
def digF (s:Int) (c:CV):Option CV:=if((qby c).length:Int)=s then some (qcy 4 (qby c) []) else none
def dgB (s lo hi:Int) (l:List CV):Bool:=shut (evB (digF s) lo hi l)
def dgL (s lo hi:Int) (l:List CV):List CV:=shut (evL (digF s) lo hi l)
def qqk (s:Int) (c:CV):Option CV:=if evB (digF s) 1 64 (qbi c)=true then some (qcy 48 [] (evL (digF s) 1 64 (qbi c))) else none
def xb0f (s lo hi:Int) (l:List CV):Bool:=shut (evB (qqk s) lo hi l)
def xb01 (s lo hi:Int) (l:List CV):List CV:=shut (evL (qqk s) lo hi l)
def q6r (d:Int) (t:List CV) (w:List Int):List CV:=
 qcy 160 [] [q48 (qaw d).2.2]::((if t=[] then[] else[qcy 162 [] (evL (qqk (qbg d)) 0 20 t)])++[ndCV (qba w).1])
def qcv (d:Int) (t:List CV) (w:List Int):Bool:=decide ((qaw d).2.1=1)&&(decide ((qba w).2=0)&&evB (qqk (qbg d)) 0 20 t)
def qz1 (d:Int) (t:List CV) (w:List Int):Bool:=shut (qcv d t w)
def q59 (d:Int) (t:List CV) (w:List Int):Int×List CV:=shut (if qcv d t w=true then(48,q6r d t w) else(0,[]))
def q1o (d:Int) (t:List CV) (w:List Int):Int×List CV:=shut (if decide ((qaw d).2.1=1)&&evB (qqk (qbg d)) 0 20 t then(48,q6r d t w) else(0,[]))
def qmt (c:CV):Option CV:=if qcv (mD c) (mT c) (mW c)=true then some (qcy 48 [] (q6r (mD c) (mT c) (mW c))) else none
def qsa (lo hi:Int) (l:List CV):Bool:=shut (evB qmt lo hi l)
def qr8 (lo hi:Int) (l:List CV):List CV:=shut (evL qmt lo hi l)
def qdk (c:CV):Option CV:=if evB qmt 1 20 (qbi c)=true then some (qcy 48 [] (evL qmt 1 20 (qbi c))) else none
def qn8 (lo hi:Int) (l:List CV):Bool:=shut (evB qdk lo hi l)
def qqc (lo hi:Int) (l:List CV):List CV:=shut (evL qdk lo hi l)
def qj0 (l:List CV):Int×List CV:=shut (if evB qdk 1 10 l=true then(48,evL qdk 1 10 l) else(0,[]))
def qf1 (out:List Int) (d:Int):List Int:=if d∈out then out else out++[d]
def q9q (l:List CV):List Int:=l.map mD
def qgg (l:List CV):List Int:=(l.flatMap fun c=>q9q (qbi c)).foldl qf1 []
def qsu (l:List CV):List Int:=shut (qgg l)
def xbuw (l:List CV):List CV:=shut (l.flatMap qbi)
def hasI (l:List Int) (d:Int):Bool:=shut (decide (d∈l))
def idxI (l:List Int) (d:Int):Int:=shut (if d∈l then(l.idxOf d:Int) else -1)
def xbhm (a b:List Int):Bool:=shut (decide (a=b))
def qdt (l:List Int):Bool:=shut (decide (l.length<=1000000000000000))
def q4y (d:Int):CV:=qcy (qin d []).1 [] (qin d []).2.1
def qtz (l:List Int):Bool:=shut (decide (l.length<=1000000))
def q8f (d:Int):Option CV:=if(qin d []).2.2=0 then some (q4y d) else none
def xbsw (lo hi:Int) (l:List Int):Bool:=shut (evB q8f lo hi l)
def xbl7 (lo hi:Int) (l:List Int):List CV:=shut (evL q8f lo hi l)
def q78 (g:List Int) (c:List CV):List CV:=[qcy 2 (vInt 1) [],qcy 48 [] (g.map q4y),qcy 48 [] (evL qdk 1 10 c)]
def q9r (g:List Int) (c:List CV):Bool:=evB qdk 1 10 c&&decide (g=qgg c)
def qyo (g:List Int) (c:List CV):Bool:=q9r g c&&q1m [.int .i64 48,.sli .u8 [],.slg 3 (q78 g c)]
def evOk (g:List Int) (c:List CV):Bool:=shut (qyo g c)
def qfd (g:List Int) (c:List CV):Int×List CV:=shut (if q9r g c=true then(48,q78 g c) else(0,[]))
def qvy (g:List Int) (c:List CV):List Int×Int:=if qyo g c=true then qbm [.int .i64 48,.sli .u8 [],.slg 3 (q78 g c)] else([],1)
def qfe (g:List Int) (c:List CV):List Int×Int:=shut (qvy g c)
def xbgf (g:List Int) (c:List CV) (n:Int):List Int×Int:=
 if qyo g c=false then([],1) else if n<1\/(c.length:Int)<n then([],8) else qbm [.int .i64 48,.sli .u8 [],.slg 3 (evL qdk 1 10 (c.take n.toNat))]
def q2d (g:List Int) (c:List CV) (n:Int):List Int×Int:=shut (xbgf g c n)
def qu2 (c:CV):Option CV:=if(qbb (nT c) (nB c) (nK c)).2=0 then some (.sli .u8 (qbb (nT c) (nB c) (nK c)).1) else none
def qhu {β:Type} (f:CV->Option β) (g t:Int) (b:List Int) (k:List CV):Bool:=decide ((qb8 g t b k).2=0)&&(qb8 g t b k).1.all fun c=>(f c).isSome
def qdw {β:Type} (f:CV->Option β) (g t:Int) (b:List Int) (k:List CV):List β:=if qhu f g t b k=true then(qb8 g t b k).1.filterMap f else[]
def q1c (lo hi:Int) (l:List CV):Bool:=shut (evB qu2 lo hi l)
def q0v (lo hi:Int) (l:List CV):List CV:=shut (evL qu2 lo hi l)
def ldB (g t:Int) (b:List Int) (k:List CV):Bool:=shut (qhu qu2 g t b k)
def ldL (g t:Int) (b:List Int) (k:List CV):List CV:=shut (qdw qu2 g t b k)
def qd5 (c:CV):Option CV:=if qhu qu2 48 (nT c) (nB c) (nK c)=true then some (.slg 1 (qdw qu2 48 (nT c) (nB c) (nK c))) else none
def qsl (lo hi:Int) (l:List CV):Bool:=shut (evB qd5 lo hi l)
def qq5 (lo hi:Int) (l:List CV):List CV:=shut (evL qd5 lo hi l)
def lpB (g t:Int) (b:List Int) (k:List CV):Bool:=shut (qhu qd5 g t b k)
def lpL (g t:Int) (b:List Int) (k:List CV):List CV:=shut (qdw qd5 g t b k)
def q1l (t:Int) (b:List Int) (k:List CV):Int×Bool:=
 if(qb8 160 t b k).2≠0\/((qb8 160 t b k).1.length:Int)≠1 then(0,false) else
  let c:=(qb8 160 t b k).1.headD .nili
  (q1k (qp0 (nT c) (nB c) (nK c)).1,decide ((qp0 (nT c) (nB c) (nK c)).2=0))
def kindOf (t:Int) (b:List Int) (k:List CV):Int×Bool:=shut (q1l t b k)
def xbn5 (c:CV):Int×Bool:=q1l (nT c) (nB c) (nK c)
def q9f (c:CV):List Int×Int:=qbm [.int .i64 (nT c),.sli .u8 (nB c),.slg 3 (nK c)]
def qvb (ks:List CV):Int×List CV×List Int×Bool:=
 if(ks.length:Int)<2\/3<(ks.length:Int) then(0,[],[],false) else
  let x:=ks.headD .nili
  let y:=ks.getD 1 .nili
  let z:=ks.getD (ks.length - 1) .nili
  if(ks.length:Int)=3 then((xbn5 x).1,qdw qd5 162 (nT y) (nB y) (nK y),(q9f z).1,(qhu qd5 162 (nT y) (nB y) (nK y)&&decide (0<((qdw qd5 162 (nT y) (nB y) (nK y)).length:Int)))&&((xbn5 x).2&&decide ((q9f z).2=0)))
  else((xbn5 x).1,[],(q9f z).1,(xbn5 x).2&&decide ((q9f z).2=0))
def qgp (t:Int) (b:List Int) (k:List CV):Int×List CV×List Int×Bool:=if(qb8 48 t b k).2≠0 then(0,[],[],false) else qvb (qb8 48 t b k).1
def qm7 (t:Int) (b:List Int) (k:List CV):Int×List CV×List Int×Bool:=shut (qgp t b k)
def qve (c:CV):Option CV:=if(qgp (nT c) (nB c) (nK c)).2.2.2=true then some (qv3 (qgp (nT c) (nB c) (nK c)).1 (qgp (nT c) (nB c) (nK c)).2.1 (qgp (nT c) (nB c) (nK c)).2.2.1) else none
def qsb (lo hi:Int) (l:List CV):Bool:=shut (evB qve lo hi l)
def qse (lo hi:Int) (l:List CV):List CV:=shut (evL qve lo hi l)
def lmB (g t:Int) (b:List Int) (k:List CV):Bool:=shut (qhu qve g t b k)
def lmL (g t:Int) (b:List Int) (k:List CV):List CV:=shut (qdw qve g t b k)
def qey (c:CV):Option CV:=if qhu qve 48 (nT c) (nB c) (nK c)=true then some (.slg 3 (qdw qve 48 (nT c) (nB c) (nK c))) else none
def qnb (lo hi:Int) (l:List CV):Bool:=shut (evB qey lo hi l)
def qns (lo hi:Int) (l:List CV):List CV:=shut (evL qey lo hi l)
def lcB (g t:Int) (b:List Int) (k:List CV):Bool:=shut (qhu qey g t b k)
def lcL (g t:Int) (b:List Int) (k:List CV):List CV:=shut (qdw qey g t b k)
def algV (c:CV):Option Int:=if(qet (nT c) (nB c) (nK c)).2.2=0 then some (qet (nT c) (nB c) (nK c)).1 else none
def qzu (lo hi:Int) (l:List CV):Bool:=shut (evB algV lo hi l)
def qzb (lo hi:Int) (l:List CV):List Int:=shut (evL algV lo hi l)
def laB (g t:Int) (b:List Int) (k:List CV):Bool:=shut (qhu algV g t b k)
def laL (g t:Int) (b:List Int) (k:List CV):List Int:=shut (qdw algV g t b k)
def xbai (ks:List CV):List Int×List CV×Bool:=
 if(ks.length:Int)≠3 then([],[],false) else
  let x:=ks.headD .nili
  let y:=ks.getD 1 .nili
  let z:=ks.getD 2 .nili
  (qdw algV 48 (nT y) (nB y) (nK y),qdw qey 48 (nT z) (nB z) (nK z),(decide ((qdo (nT x) (nB x) (nK x)).2=0)&&decide ((qdo (nT x) (nB x) (nK x)).1=1))&&(qhu algV 48 (nT y) (nB y) (nK y)&&qhu qey 48 (nT z) (nB z) (nK z)))
def qe9 (b:List Int):List Int×List CV×Int:=
 if(qba b).2≠0 then([],[],(qba b).2) else
  let n:=(qba b).1
  let e:=xbai (qb8 48 n.1 n.2.1 n.2.2).1
  if(qb8 48 n.1 n.2.1 n.2.2).2=0/\e.2.2=true/\qyo e.1 e.2.1=true then(e.1,e.2.1,0) else([],[],1)
def qnu (b:List Int):List Int×List CV×Int:=shut (qe9 b)
def pD (p:Prop):Bool:=@decide p (Classical.propDecidable _)
def qe7 (a b:List CV):Bool:=shut (pD (a=b))
def qhc (a b:List CV):Bool:=shut (pD (a=b))
def q86 (d:Int) (t:List CV) (w:List Int) (d':Int) (t':List CV) (w':List Int):Bool:=shut (pD (d=d'/\t=t'/\w=w'))
def qf3 (a b:List CV):Bool:=shut (pD (a=b))
def qkc (a b:List CV):Bool:=shut (pD (a=b))
def qxs (g:List Int) (c:List CV) (g':List Int) (c':List CV):Bool:=shut (pD (g=g'/\c=c'))
def qpx (f:CV->Int->Int):List CV->Int->Int
 | [],x=>x
 | c::r,x=>if x<0 then x else qpx f r (f c x)
def rowS (c:CV) (x:Int):Int:=x - 1 - min ((qby c).length:Int) 1048576
def xbag (c:CV) (x:Int):Int:=qpx rowS (qbi c) (x - 1)
def xbad (c:CV) (x:Int):Int:=qpx xbag (mT c) (x - 2 - min ((mW c).length:Int) 1048576)
def qyp (c:CV) (x:Int):Int:=qpx xbad (qbi c) (x - 1)
def qpt (g:List Int) (c:List CV) (left:Int):Int:=shut (qpx qyp c (left - min (g.length:Int) 1000))
def xb21 (l:List CV):Prop:= ∀c∈l, ∃b:List Int,c=.sli .u8 b/\∀x∈b,0<=x/\x<=255
def xb26 (t:List CV):Prop:= ∀c∈t, ∃l,c=.slg 1 l/\xb21 l
def xbh4 (l:List CV):Prop:= ∀c∈l, ∃d t w,c=qv3 d t w/\xb26 t/\∀x∈w,0<=x/\x<=255
def qtl (l:List CV):Prop:= ∀c∈l, ∃m,c=.slg 3 m/\xbh4 m
def recT (g:List Int) (l:List CV):Bool:=shut (@decide (g.length<=1000000000000000/\l.length<=1000000000000000/\qtl l) (Classical.propDecidable _))
def xbuj (g:List Int) (c:List CV):Bool:=shut (c.all (fun x=>decide ((qbi x).length<=25))&&(decide (c.length<=12)&&decide (0<=qpt g c 6000)))
def qay:Nat->Option CV:=fun g=>cond (Nat.beq g 0) (some (.aggi 256 .u8 u8First)) (cond (Nat.beq g 1) (some (.agga 16 2 u8Accept)) (cond (Nat.beq g 2) (some (xbe1)) (cond (Nat.beq g 3) (some (qyg)) (none))))
def QONums:List V->List Obj->Option (List (List CV)):=fun xs obs=>match xs,obs with
 | [.ptr 0 0 0],[⟨.var [.cl (.sli .u8 b)],false⟩]=>some (qrb (quv b))
 | _,_=>none
def xbbx:List V->List Obj->Bool:=fun xs obs=>match xs,obs with
 | [.ptr 0 0 0],[⟨.var [.cl (.sli .u8 b)],false⟩]=>qad b
 | _,_=>false
def q0h:List CV->Bool:=fun x=>match x with
 | [.int .u32 _,.bool _]=>true
 | _=>false
theorem xbf1 {x:List CV} (h:q0h x=true): ∃e1 e2,x=[.int .u32 e1,.bool e2]:=by
 unfold q0h at h
 split at h
 ·exact⟨_,_,rfl⟩
 ·cases h
def q77:List V->List Obj->Option (List (List CV)):=fun xs obs=>match xs,obs with
 | [],[]=>some (qpw)
 | _,_=>none
def q1z:List V->List Obj->Bool:=fun xs obs=>match xs,obs with
 | [],[]=>true
 | _,_=>false
def qnr:List CV->Bool:=fun x=>match x with
 | [.agg [.int .i64 _,.int .i64 _,.sli .u32 _]]=>true
 | _=>false
theorem q0g {x:List CV} (h:qnr x=true): ∃e1 e2 e3,x=[.agg [.int .i64 e1,.int .i64 e2,.sli .u32 e3]]:=by
 unfold qnr at h
 split at h
 ·exact⟨_,_,_,rfl⟩
 ·cases h
def DDCatch:DSpec:=fun m xs obs=>match m,xs,obs with
 | none,[.ptr 0 0 0,.ptr 1 0 0],[⟨.var [.cl (.int .i64 t),.cl (.sli .u8 bb),.cl (.slg 3 kk)],false⟩,⟨.var [.cl (.int .i64 e)],false⟩]=>zR [] [some ⟨.var [.cl (.int .i64 t),.cl (.sli .u8 bb),.cl (.slg 3 kk)],false⟩,some ⟨.var [.cl (.int .i64 e)],false⟩]
 | some (.iface 85 (.agg [.int .i64 why])),[.ptr 0 0 0,.ptr 1 0 0],[⟨.var [.cl (.int .i64 t),.cl (.sli .u8 bb),.cl (.slg 3 kk)],false⟩,⟨.var [.cl (.int .i64 e)],false⟩]=>zR [] [some ⟨.var [.cl (.int .i64 0),.nils,.nils],false⟩,some ⟨.var [.cl (.int .i64 why)],false⟩]
 | some (.iface 85 (.agg [.int .i64 why])),[.ptr 0 0 0,.ptr 1 0 0],[⟨.var [.cl (.int .i64 t),.nils,.nils],false⟩,⟨.var [.cl (.int .i64 e)],false⟩]=>zR [] [some ⟨.var [.cl (.int .i64 0),.nils,.nils],false⟩,some ⟨.var [.cl (.int .i64 why)],false⟩]
 | _,_,_=>none
def qtk:Option CV->List V->List Obj->Bool:=fun m xs obs=>match m,xs,obs with
 | none,[.ptr 0 0 0,.ptr 1 0 0],[⟨.var [.cl (.int .i64 t),.cl (.sli .u8 bb),.cl (.slg 3 kk)],false⟩,⟨.var [.cl (.int .i64 e)],false⟩]=>true
 | some (.iface 85 (.agg [.int .i64 why])),[.ptr 0 0 0,.ptr 1 0 0],[⟨.var [.cl (.int .i64 t),.cl (.sli .u8 bb),.cl (.slg 3 kk)],false⟩,⟨.var [.cl (.int .i64 e)],false⟩]=>true
 | some (.iface 85 (.agg [.int .i64 why])),[.ptr 0 0 0,.ptr 1 0 0],[⟨.var [.cl (.int .i64 t),.nils,.nils],false⟩,⟨.var [.cl (.int .i64 e)],false⟩]=>true
 | _,_,_=>false
def KDigits:Ct:=fun
 | [.cl (.str s)],[]=>some (decide (2<=s.size),.leaf (.ret [.cl (.int .i64 (qfs s))] []))
 | _,_=>none
def BDigits:Nat->Ct:=t0
def KDLeap:Ct:=fun
 | [.cl (.aggi 6 .i64 [d0,d1,d2,d3,d4,d5])],[]=>some (stOk d0,.leaf (.ret [.cl (.bool (qmg d0))] []))
 | _,_=>none
def BDLeap:Nat->Ct:=tb 172 KDigits BDigits
def KDDays:Ct:=fun
 | [.cl (.aggi 6 .i64 [d0,d1,d2,d3,d4,d5])],[]=>some (stOk d0,.leaf (.ret [.cl (.int .i64 (qjd d0 d1))] []))
 | _,_=>none
def BDDays:Nat->Ct:=tb 195 KDLeap BDLeap
def KDFit:Ct:=fun
 | [.cl (.aggi 6 .i64 [d0,d1,d2,d3,d4,d5])],[]=>some (true,.leaf (.ret [.cl (.bool (qp3 d0 d1 d2 d3 d4 d5))] []))
 | _,_=>none
def BDFit:Nat->Ct:=tb 191 KDDays BDDays
def KDSecs:Ct:=fun
 | [.cl (.aggi 6 .i64 [d0,d1,d2,d3,d4,d5])],[]=>some (qp3 d0 d1 d2 d3 d4 d5,.leaf (.ret [.cl (.int .i64 (qtu d0 d1 d2 d3 d4 d5))] []))
 | _,_=>none
def BDSecs:Nat->Ct:=tb 173 KDFit BDFit
def KSRead:Ct:=fun
 | [.cl (.str s)],[]=>some (true,.leaf (.ret [.cl (.int .i64 ((qo9 s).1)),.cl (.int .i64 ((qo9 s).2))] []))
 | _,_=>none
def BSRead:Nat->Ct:=tb 174 KDSecs BDSecs
def KRLeap:Ct:=fun
 | [.cl (.int .i64 y)],[]=>some (stOk y,.leaf (.ret [.cl (.bool (qmg y))] []))
 | _,_=>none
def BRLeap:Nat->Ct:=tb 136 KSRead BSRead
def KRDays:Ct:=fun
 | [.cl (.int .i64 y),.cl (.int .i64 m)],[]=>some (true,.leaf (.ret [.cl (.int .i64 (qjk y m))] []))
 | _,_=>none
def BRDays:Nat->Ct:=tb 193 KRLeap BRLeap
def KRYears:Ct:=fun
 | [.cl (.int .i64 y)],[]=>some (stOk y,.leaf (.ret [.cl (.int .i64 (qen y))] []))
 | _,_=>none
def BRYears:Nat->Ct:=tb 181 KRDays BRDays
def KRNumber:Ct:=fun
 | [.cl (.str s)],[]=>some (decide (s.size<=18),.leaf (.ret [.cl (.int .i64 (qdz s))] []))
 | _,_=>none
def BRNumber:Nat->Ct:=tb 182 KRYears BRYears
def KRRead:Ct:=fun
 | [.cl (.str s)],[]=>some (true,.leaf (.ret [.cl (.int .i64 ((qo9 s).1)),.cl (.int .i64 ((qo9 s).2))] []))
 | _,_=>none
def BRRead:Nat->Ct:=tb 180 KRNumber BRNumber
def KDBoxed:Ct:=fun
 | [.cl (.int .i64 tag)],[]=>some (true,.leaf (.ret [.cl (.bool (qbn tag))] []))
 | _,_=>none
def BDBoxed:Nat->Ct:=tb 148 KRRead BRRead
def KRBoxed:Ct:=fun
 | [.cl (.int .i64 tag)],[]=>some (true,.leaf (.ret [.cl (.bool (qbn tag))] []))
 | _,_=>none
def BRBoxed:Nat->Ct:=tb 50 KDBoxed BDBoxed
def KDKnown:Ct:=fun
 | [.cl (.int .i64 tag)],[]=>some (true,.leaf (.ret [.cl (.bool (qdy tag))] []))
 | _,_=>none
def BDKnown:Nat->Ct:=tb 103 KRBoxed BRBoxed
def KRTagged:Ct:=fun
 | [.cl (.int .i64 tag)],[]=>some (true,.leaf (.ret [.cl (.bool (qdy tag))] []))
 | _,_=>none
def BRTagged:Nat->Ct:=tb 87 KDKnown BDKnown
def qnt:Ct:=fun
 | [.cl (.int .i64 n)],[]=>some (true,.leaf (.ret [.cl (.int .i64 (qb6 n))] []))
 | _,_=>none
def qv8:Nat->Ct:=tb 101 KRTagged BRTagged
def KDNumber:Ct:=fun
 | [.cl (.sli .u8 b)],[]=>some (qad b,.leaf (.ret [.cl (.bool (qfu b))] []))
 | _,_=>none
def BDNumber:Nat->Ct:=tb 121 qnt qv8
def q4f:Ct:=fun
 | [.cl (.sli .u8 b)],[]=>some (qad b,.leaf (.ret [.cl (.bool (qfu b))] []))
 | _,_=>none
def q5d:Nat->Ct:=tb 132 KDNumber BDNumber
def KDStrip:Ct:=fun
 | [.cl (.sli .u8 b)],[]=>some (qad b,.leaf (.ret [.cl (.bool (qjc b))] []))
 | _,_=>none
def BDStrip:Nat->Ct:=tb 145 q4f q5d
def qy0:Ct:=fun
 | [.cl (.sli .u8 b)],[]=>some (qad b,.leaf (.ret [.cl (.bool (qjc b))] []))
 | _,_=>none
def qy2:Nat->Ct:=tb 133 KDStrip BDStrip
def KRCont:Ct:=fun
 | [.cl (.sli .u8 b),.cl (.int .i64 i)],[]=>some (decide (0<=i),.leaf (.ret [.cl (.bool (u8Cont b i))] []))
 | _,_=>none
def BRCont:Nat->Ct:=tb 146 qy0 qy2
def KRRune:Ct:=fun
 | [.cl (.sli .u8 b),.cl (.int .i64 i)],[]=>some (qad b&&decide (0<=i/\i<b.length),.leaf (.ret [.cl (.int .i64 (u8Rune b i))] []))
 | _,_=>none
def BRRune:Nat->Ct:=tb 192 KRCont BRCont
def KRUtf8:Ct:=fun
 | [.cl (.sli .u8 b)],[]=>some (qad b,.leaf (.ret [.cl (.bool (u8Valid b))] []))
 | _,_=>none
def BRUtf8:Nat->Ct:=tb 179 KRRune BRRune
def KOFit:Ct:=fun
 | [.cl (.sli .u32 o)],[]=>some (true,.leaf (.ret [.cl (.bool (qkf o))] []))
 | _,_=>none
def BOFit:Nat->Ct:=tb 147 KRUtf8 BRUtf8
def KR2Fit:Ct:=fun
 | [.cl (.sli .u32 o)],[]=>some (true,.leaf (.ret [.cl (.bool (qkf o))] []))
 | _,_=>none
def BR2Fit:Nat->Ct:=tb 170 KOFit BOFit
def KR2First:Ct:=fun
 | [.cl (.int .u64 n)],[]=>some (u32Ok n,.leaf (.ret [.cl (.sli .u32 (qgs n))] []))
 | _,_=>none
def BR2First:Nat->Ct:=tb 150 KR2Fit BR2Fit
def KONumber:Ct:=fun
 | [.cl (.sli .u8 b)],[]=>some (qad b,.leaf (.ret [.cl (.int .u32 ((qf4 b).1)),.cl (.int .i64 ((qf4 b).2))] []))
 | _,_=>none
def BONumber:Nat->Ct:=tb 149 KR2First BR2First
def KONumbers:Ct:=fun
 | [.cl (.sli .u8 b)],[]=>some (true,.leaf (.ret [.fn (.func 189) [] [.ptr 0 0 0]] [some ⟨.var [.cl (.sli .u8 b)],false⟩]))
 | _,_=>none
def BONumbers:Nat->Ct:=tb 190 KONumber BONumber
def KARoot:Ct:=fun
 | [.cl (.int .i64 0)],[]=>some (true,.leaf (.ret [.ref 0 0 8 true 1] [some ⟨.ints .u32 [2,16,840,1,101,3,4,2],false⟩]))
 | [.cl (.int .i64 1)],[]=>some (true,.leaf (.ret [.ref 0 0 8 true 1] [some ⟨.ints .u32 [2,16,840,1,101,3,4,3],false⟩]))
 | [.cl (.int .i64 2)],[]=>some (true,.leaf (.ret [.ref 0 0 8 true 1] [some ⟨.ints .u32 [2,16,840,1,101,3,4,4],false⟩]))
 | [.cl (.int .i64 3)],[]=>some (true,.leaf (.ret [.ref 0 0 8 true 1] [some ⟨.ints .u32 [2,16,840,1,101,3,4,1],false⟩]))
 | [.cl (.int .i64 4)],[]=>some (true,.leaf (.ret [.ref 0 0 8 true 1] [some ⟨.ints .u32 [1,2,840,113549,1,9,16,3],false⟩]))
 | [.cl (.int .i64 5)],[]=>some (true,.leaf (.ret [.ref 0 0 2 true 1] [some ⟨.ints .u32 [2,999],false⟩]))
 | _,_=>none
def BARoot:Nat->Ct:=tb 169 KONumbers BONumbers
def SOParse:List V->List Obj->Tree:=fun xs obs=>match xs,obs with
 | [.cl (.sli .u8 b)],[]=>.leaf (.ret [.cl (.sli .u32 ((qdm b).1)),.cl (.int .i64 ((qdm b).2))] [])
 | _,_=>.fail
def qwx:List V->List Obj->Bool:=fun xs obs=>match xs,obs with
 | [.cl (.sli .u8 b)],[]=>qad b
 | _,_=>false
def BOParse:Nat->Ct:=tb 176 KARoot BARoot
def KR2Parse:Ct:=fun
 | [.cl (.sli .u8 b)],[]=>some (qad b,.leaf (.ret [.cl (.sli .u32 ((qdm b).1)),.cl (.int .i64 ((qdm b).2))] []))
 | _,_=>none
def BR2Parse:Nat->Ct:=tb 134 (ofS qwx SOParse) BOParse
def KR1Same:Ct:=fun
 | [.cl (.sli .u8 a),.cl (.sli .u8 b)],[]=>some (qcc a,.leaf (.ret [.cl (.bool (qbl a b))] []))
 | _,_=>none
def BR1Same:Nat->Ct:=tb 107 KR2Parse BR2Parse
def KSClone:Ct:=fun
 | [.cl (.sli .u8 b)],[]=>some (qcc b,.leaf (.ret [.cl (.sli .u8 b)] []))
 | _,_=>none
def BSClone:Nat->Ct:=tb 14 KR1Same BR1Same
def KR1Num:Ct:=fun
 | [.cl (.sli .u8 b)],[]=>some (qad b&&decide (b.length<=7),.leaf (.ret [.cl (.int .u64 (qhd b))] []))
 | _,_=>none
def BR1Num:Nat->Ct:=tb 91 KSClone BSClone
def KRLength:Ct:=fun
 | [.cl (.sli .u8 b)],[]=>some (qad b,.leaf (.ret [.cl (.int .i64 ((qg3 b).1)),.cl (.int .i64 ((qg3 b).2))] []))
 | _,_=>none
def BRLength:Nat->Ct:=tb 144 KR1Num BR1Num
def KR4Less:Ct:=fun
 | [.cl (.sli .u8 a),.cl (.sli .u8 b)],[]=>some (qcc a,.leaf (.ret [.cl (.bool (qec a b))] []))
 | _,_=>none
def BR4Less:Nat->Ct:=tb 102 KRLength BRLength
def KUWord:Ct:=fun
 | [.cl (.sli .u8 b)],[]=>some (qad b&&decide (8<=b.length),.leaf (.ret [.cl (.int .u64 (u8Word b))] []))
 | _,_=>none
def BUWord:Nat->Ct:=tb 111 KR4Less BR4Less
def KUValid:Ct:=fun
 | [.cl (.sli .u8 b)],[]=>some (qad b,.leaf (.ret [.cl (.bool (u8Valid b))] []))
 | _,_=>none
def BUValid:Nat->Ct:=tb 171 KUWord BUWord
def KDFits:Ct:=fun
 | [.cl (.int .i64 tag),.cl (.sli .u8 b)],[]=>some (qad b,.leaf (.ret [.cl (.bool (qcu tag b))] []))
 | _,_=>none
def BDFits:Nat->Ct:=tb 135 KUValid BUValid
def KRFits:Ct:=fun
 | [.cl (.int .i64 tag),.cl (.sli .u8 b)],[]=>some (qad b,.leaf (.ret [.cl (.bool (qcu tag b))] []))
 | _,_=>none
def BRFits:Nat->Ct:=tb 90 KDFits BDFits
def KR4Sorted:Ct:=fun
 | [.cl (.slg 1 l)],[]=>some (qh2 l,.leaf (.ret [.cl (.bool (qbt l))] []))
 | _,_=>none
def BR4Sorted:Nat->Ct:=tb 104 KRFits BRFits
def SBACompare:List V->List Obj->Tree:=fun xs obs=>match xs,obs with
 | [.cl (.sli .u8 a),.cl (.sli .u8 b)],[]=>.leaf (.ret [.cl (.int .i64 (qha a b))] [])
 | _,_=>.fail
def qi9:List V->List Obj->Bool:=fun xs obs=>match xs,obs with
 | [.cl (.sli .u8 a),.cl (.sli .u8 b)],[]=>qad a&&qad b
 | _,_=>false
def BBACompare:Nat->Ct:=tb 105 KR4Sorted BR4Sorted
def KBCompare:Ct:=fun
 | [.cl (.sli .u8 a),.cl (.sli .u8 b)],[]=>some (qad a&&qad b,.leaf (.ret [.cl (.int .i64 (qha a b))] []))
 | _,_=>none
def BBCompare:Nat->Ct:=tb 185 (ofS qi9 SBACompare) BBACompare
def KOLess:Ct:=fun
 | [.cl (.sli .u8 a),.cl (.sli .u8 b)],[]=>some (qad a&&qad b,.leaf (.ret [.cl (.bool (decide (qha a b<=0)))] []))
 | _,_=>none
def BOLess:Nat->Ct:=tb 161 KBCompare BBCompare
def KOSteps:Ct:=fun
 | [.cl (.slg 1 l),.cl (.fn (.func 160) [] [])],[]=>some (qh2 l,.leaf (.ret [.cl (.bool (qbt l))] []))
 | _,_=>none
def BOSteps:Nat->Ct:=tb 160 KOLess BOLess
def KOSorted:Ct:=fun
 | [.cl (.slg 1 l)],[]=>some (qh2 l,.leaf (.ret [.cl (.bool (qbt l))] []))
 | _,_=>none
def BOSorted:Nat->Ct:=tb 159 KOSteps BOSteps
def quw:List V->List Obj->Tree:=fun xs obs=>match xs,obs with
 | [.cl (.sli .u8 b),.cl (.int .i64 deep)],[]=>.leaf (.ret [.cl (.agg [.int .i64 ((qem b deep).1.1),.sli .u8 ((qem b deep).1.2.1),.slg 3 ((qem b deep).1.2.2)]),.cl (.int .i64 ((qem b deep).2.1)),.cl (.int .i64 ((qem b deep).2.2))] [])
 | _,_=>.fail
def qqw:List V->List Obj->Bool:=fun xs obs=>match xs,obs with
 | [.cl (.sli .u8 b),.cl (.int .i64 deep)],[]=>qad b&&qck deep
 | _,_=>false
def qsp (rk:Nat):List V->List Obj->Bool:=fun xs obs=>match xs,obs with
 | [.cl (.sli .u8 b),.cl (.int .i64 deep)],[]=>qad b&&(qck deep&&decide (deep.toNat<rk))
 | _,_=>false
def xbl2:Nat->Ct:=tb 123 KOSorted BOSorted
def KRParse:Ct:=fun
 | [.cl (.sli .u8 b)],[]=>some (qad b,.leaf (.ret [.cl (.agg [.int .i64 ((qba b).1.1),.sli .u8 ((qba b).1.2.1),.slg 3 ((qba b).1.2.2)]),.cl (.int .i64 ((qba b).2))] []))
 | _,_=>none
def BRParse:Nat->Ct:=tb 59 (ofS qqw quw) xbl2
def KDMust:Ct:=fun
 | [.cl (.bool true),.cl (.int .i64 e)],[]=>some (true,.leaf (.ret [] []))
 | [.cl (.bool false),.cl (.int .i64 e)],[]=>some (true,.ite (true) (.leaf (.pan (.iface 85 (.agg [.int .i64 e])) [])) (.leaf (.ret [] [])))
 | _,_=>none
def BDMust:Nat->Ct:=tb 30 KRParse BRParse
def KDNext:Ct:=fun
 | [.ptr 0 0 0],[⟨.var [.cl (.sli .u8 l),.cl (.int .i64 d)],false⟩]=>some (qad l,.ite (l.isEmpty) (.leaf (.pan (.iface 85 (.agg [.int .i64 1])) [some ⟨.var [.cl (.sli .u8 l),.cl (.int .i64 d)],false⟩])) (.leaf (.ret [.cl (.int .i64 (l.headD 0))] [some ⟨.var [.cl (.sli .u8 l.tail),.cl (.int .i64 d)],false⟩])))
 | _,_=>none
def BDNext:Nat->Ct:=tb 49 KDMust BDMust
def KDLength:Ct:=fun
 | [.ptr 0 0 0],[⟨.var [.cl (.sli .u8 l),.cl (.int .i64 d)],false⟩]=>some (qad l,.ite (!(qpm l)) (.leaf (.pan (.iface 85 (.agg [.int .i64 1])) [some ⟨.var [.cl (.sli .u8 (qg4 l)),.cl (.int .i64 d)],false⟩])) (.leaf (.ret [.cl (.int .i64 ((qej l).1))] [some ⟨.var [.cl (.sli .u8 ((qej l).2)),.cl (.int .i64 d)],false⟩])))
 | _,_=>none
def BDLength:Nat->Ct:=tb 86 KDNext BDNext
def SDValue:List V->List Obj->Tree:=fun xs obs=>match xs,obs with
 | [.ptr 0 0 0],[⟨.var [.cl (.sli .u8 l),.cl (.int .i64 d)],false⟩]=>.ite (!(decide ((qlz l d).1=0))) (.leaf (.pan (.iface 85 (.agg [.int .i64 ((qlz l d).1)])) [some ⟨.var [.cl (.sli .u8 ((qlz l d).2.2)),.cl (.int .i64 d)],false⟩])) (.leaf (.ret [.cl (.agg [.int .i64 ((qlz l d).2.1.1),.sli .u8 ((qlz l d).2.1.2.1),.slg 3 ((qlz l d).2.1.2.2)])] [some ⟨.var [.cl (.sli .u8 ((qlz l d).2.2)),.cl (.int .i64 d)],false⟩]))
 | _,_=>.fail
def qm1:List V->List Obj->Bool:=fun xs obs=>match xs,obs with
 | [.ptr 0 0 0],[⟨.var [.cl (.sli .u8 l),.cl (.int .i64 d)],false⟩]=>qad l&&qck d
 | _,_=>false
def qkb (rk:Nat):List V->List Obj->Bool:=fun xs obs=>match xs,obs with
 | [.ptr 0 0 0],[⟨.var [.cl (.sli .u8 l),.cl (.int .i64 d)],false⟩]=>qad l&&(qck d&&decide (d.toNat<rk))
 | _,_=>false
def BDValue:Nat->Ct:=tb 88 KDLength BDLength
def SDParts:List V->List Obj->Tree:=fun xs obs=>match xs,obs with
 | [.ptr 0 0 0,.cl (.int .i64 tag),.cl (.sli .u8 b)],[⟨.var [.cl (.sli .u8 l),.cl (.int .i64 d)],false⟩]=>.ite (!(decide ((qbc tag b d).1=0))) (.leaf (.pan (.iface 85 (.agg [.int .i64 ((qbc tag b d).1)])) [some ⟨.var [.cl (.sli .u8 l),.cl (.int .i64 d)],false⟩])) (.leaf (.ret [.cl (.agg [.int .i64 ((qbc tag b d).2.1),.sli .u8 ((qbc tag b d).2.2.1),.slg 3 ((qbc tag b d).2.2.2)])] [some ⟨.var [.cl (.sli .u8 l),.cl (.int .i64 d)],false⟩]))
 | _,_=>.fail
def qqo:List V->List Obj->Bool:=fun xs obs=>match xs,obs with
 | [.ptr 0 0 0,.cl (.int .i64 tag),.cl (.sli .u8 b)],[⟨.var [.cl (.sli .u8 l),.cl (.int .i64 d)],false⟩]=>qad b&&(qck d&&decide (0<d))
 | _,_=>false
def qru (rk:Nat):List V->List Obj->Bool:=fun xs obs=>match xs,obs with
 | [.ptr 0 0 0,.cl (.int .i64 tag),.cl (.sli .u8 b)],[⟨.var [.cl (.sli .u8 l),.cl (.int .i64 d)],false⟩]=>qad b&&(qck d&&decide (0<d/\d.toNat<rk+1))
 | _,_=>false
def BDParts:Nat->Ct:=tb 48 (ofS qm1 SDValue) BDValue
def SDParse:List V->List Obj->Tree:=fun xs obs=>match xs,obs with
 | [.cl (.sli .u8 b)],[]=>.leaf (.ret [.cl (.agg [.int .i64 ((qba b).1.1),.sli .u8 ((qba b).1.2.1),.slg 3 ((qba b).1.2.2)]),.cl (.int .i64 ((qba b).2))] [])
 | _,_=>.fail
def qyx:List V->List Obj->Bool:=fun xs obs=>match xs,obs with
 | [.cl (.sli .u8 b)],[]=>qad b
 | _,_=>false
def BDParse:Nat->Ct:=tb 89 (ofS qqo SDParts) BDParts
def KSEqual:Ct:=fun
 | [.cl (.sli .u8 a),.cl (.sli .u8 b)],[]=>some (qcc a,.leaf (.ret [.cl (.bool (qbl a b))] []))
 | _,_=>none
def BSEqual:Nat->Ct:=tb 23 (ofS qyx SDParse) BDParse
def SDSize:List V->List Obj->Tree:=fun xs obs=>match xs,obs with
 | [.cl (.agg a),.cl (.int .i64 deep)],[]=>.leaf (.ret [.cl (.int .i64 (q3l a deep))] [])
 | _,_=>.fail
def qtn:List V->List Obj->Bool:=fun xs obs=>match xs,obs with
 | [.cl (.agg a),.cl (.int .i64 deep)],[]=>isS a&&qck deep
 | _,_=>false
def qlb (rk:Nat):List V->List Obj->Bool:=fun xs obs=>match xs,obs with
 | [.cl (.agg a),.cl (.int .i64 deep)],[]=>isSr rk a&&qck deep
 | _,_=>false
def BDSize:Nat->Ct:=tb 84 KSEqual BSEqual
def KDPut:Ct:=fun
 | [.nils,.cl (.int .i64 tag),.cl (.int .i64 n)],[]=>some (qlx tag n,.leaf (.ret [.ref 0 0 ((qdg tag n).length) true 1] [some ⟨.ints .u8 (qdg tag n),false⟩]))
 | _,_=>none
def BDPut:Nat->Ct:=tb 73 (ofS qtn SDSize) BDSize
def KRHead:Ct:=fun
 | [.cl (.int .i64 tag),.cl (.int .i64 n)],[]=>some (qlx tag n,.leaf (.ret [.ref 0 0 ((qdg tag n).length) true 1] [some ⟨.ints .u8 (qdg tag n),false⟩]))
 | _,_=>none
def BRHead:Nat->Ct:=tb 122 KDPut BDPut
def KR1Join:Ct:=fun
 | [.cl (.slg 1 l)],[]=>some (qog l,.leaf (.ret [.cl (.sli .u8 (qdn l))] []))
 | _,_=>none
def BR1Join:Nat->Ct:=tb 128 KRHead BRHead
def SSGrow:List V->List Obj->Tree:=fun xs obs=>match xs,obs with
 | [.nils,.cl (.int .i64 n)],[]=>.leaf (.ret [.ref 0 0 0 true 1] [some ⟨.ints .u8 qa0,false⟩])
 | _,_=>.fail
def qv1:List V->List Obj->Bool:=fun xs obs=>match xs,obs with
 | [.nils,.cl (.int .i64 n)],[]=>q1i n
 | _,_=>false
def BSGrow:Nat->Ct:=tb 129 KR1Join BR1Join
def KSConcat:Ct:=fun
 | [.cl (.slg 1 l)],[]=>some (qog l,.leaf (.ret [.cl (.sli .u8 (qdn l))] []))
 | _,_=>none
def BSConcat:Nat->Ct:=tb 162 (ofS qv1 SSGrow) BSGrow
def SDWrite:List V->List Obj->Tree:=fun xs obs=>match xs,obs with
 | [.cl (.agg a)],[]=>.leaf (.ret [.cl (.sli .u8 ((qkp a).1)),.cl (.bool ((qkp a).2))] [])
 | _,_=>.fail
def qnk:List V->List Obj->Bool:=fun xs obs=>match xs,obs with
 | [.cl (.agg a)],[]=>isW a
 | _,_=>false
def qh3 (rk:Nat):List V->List Obj->Bool:=fun xs obs=>match xs,obs with
 | [.cl (.agg a)],[]=>isWr rk a
 | _,_=>false
def BDWrite:Nat->Ct:=tb 124 KSConcat BSConcat
def SRWrite:List V->List Obj->Tree:=fun xs obs=>match xs,obs with
 | [.cl (.agg a),.cl (.int .i64 deep)],[]=>.leaf (.ret [.cl (.sli .u8 ((qgr a deep).1)),.cl (.bool ((qgr a deep).2))] [])
 | _,_=>.fail
def qno:List V->List Obj->Bool:=fun xs obs=>match xs,obs with
 | [.cl (.agg a),.cl (.int .i64 deep)],[]=>isS a&&qck deep
 | _,_=>false
def qii (rk:Nat):List V->List Obj->Bool:=fun xs obs=>match xs,obs with
 | [.cl (.agg a),.cl (.int .i64 deep)],[]=>isSr rk a&&qck deep
 | _,_=>false
def BRWrite:Nat->Ct:=tb 74 (ofS qnk SDWrite) BDWrite
def SDBytes:List V->List Obj->Tree:=fun xs obs=>match xs,obs with
 | [.cl (.agg a)],[]=>.leaf (.ret [.cl (.sli .u8 ((qbm a).1)),.cl (.int .i64 ((qbm a).2))] [])
 | _,_=>.fail
def qja:List V->List Obj->Bool:=fun xs obs=>match xs,obs with
 | [.cl (.agg a)],[]=>isS a
 | _,_=>false
def BDBytes:Nat->Ct:=tb 77 (ofS qno SRWrite) BRWrite
def xbsl:List V->List Obj->Tree:=fun xs obs=>match xs,obs with
 | [.cl (.agg a)],[]=>.leaf (.ret [.cl (.bool (q1m a))] [])
 | _,_=>.fail
def qpd:List V->List Obj->Bool:=fun xs obs=>match xs,obs with
 | [.cl (.agg a)],[]=>isS a
 | _,_=>false
def xbwi:Nat->Ct:=tb 36 (ofS qja SDBytes) BDBytes
def SRBytes:List V->List Obj->Tree:=fun xs obs=>match xs,obs with
 | [.cl (.agg a)],[]=>.leaf (.ret [.cl (.sli .u8 ((qbm a).1)),.cl (.int .i64 ((qbm a).2))] [])
 | _,_=>.fail
def qiz:List V->List Obj->Bool:=fun xs obs=>match xs,obs with
 | [.cl (.agg a)],[]=>isS a
 | _,_=>false
def BRBytes:Nat->Ct:=tb 72 (ofS qpd xbsl) xbwi
def xbr1:List V->List Obj->Tree:=fun xs obs=>match xs,obs with
 | [.cl (.agg a)],[]=>.leaf (.ret [.cl (.bool (q1m a))] [])
 | _,_=>.fail
def qop:List V->List Obj->Bool:=fun xs obs=>match xs,obs with
 | [.cl (.agg a)],[]=>isS a
 | _,_=>false
def xb0a:Nat->Ct:=tb 38 (ofS qiz SRBytes) BRBytes
def KSEq32:Ct:=fun
 | [.cl (.sli .u32 a),.cl (.sli .u32 b)],[]=>some (qcc a,.leaf (.ret [.cl (.bool (qbl a b))] []))
 | _,_=>none
def BSEq32:Nat->Ct:=tb 66 (ofS qop xbr1) xb0a
def KOSame:Ct:=fun
 | [.cl (.sli .u32 a),.cl (.sli .u32 b)],[]=>some (qcc a,.leaf (.ret [.cl (.bool (qbl a b))] []))
 | _,_=>none
def BOSame:Nat->Ct:=tb 177 KSEq32 BSEq32
def KOPut:Ct:=fun
 | [.nils,.cl (.int .u32 n)],[]=>some (u32Ok n,.leaf (.ret [.ref 0 0 ((qbp n).length) true 1] [some ⟨.ints .u8 (qbp n),false⟩]))
 | [.ref 0 0 m true 1,.cl (.int .u32 n)],[⟨.ints .u8 l,false⟩]=>some (u32Ok n&&qcc l,.leaf (.ret [.ref 1 0 ((l++qbp n).length) true 1] [none,some ⟨.ints .u8 (l++qbp n),false⟩]))
 | _,_=>none
def BOPut:Nat->Ct:=tb 139 KOSame BOSame
def KR2Groups:Ct:=fun
 | [.cl (.int .u32 n)],[]=>some (u32Ok n,.leaf (.ret [.ref 0 0 ((qbp n).length) true 1] [some ⟨.ints .u8 (qbp n),false⟩]))
 | _,_=>none
def BR2Groups:Nat->Ct:=tb 184 KOPut BOPut
def KOBytes:Ct:=fun
 | [.cl (.sli .u32 o)],[]=>some (qtx o,.leaf (.ret [.cl (.sli .u8 (qa3 o))] []))
 | _,_=>none
def BOBytes:Nat->Ct:=tb 183 KR2Groups BR2Groups
def KR2Bytes:Ct:=fun
 | [.cl (.sli .u32 o)],[]=>some (qtx o,.leaf (.ret [.cl (.sli .u8 (qa3 o))] []))
 | _,_=>none
def BR2Bytes:Nat->Ct:=tb 156 KOBytes BOBytes
def KVBNum:Ct:=fun
 | [.cl (.sli .u8 b)],[]=>some (num8 b,.leaf (.ret [.cl (.int .u64 (qhd b))] []))
 | _,_=>none
def BVBNum:Nat->Ct:=tb 154 KR2Bytes BR2Bytes
def KVLe:Ct:=fun
 | [.cl (.int .u64 n),.cl (.int .i64 8)],[]=>some (u64Ok n,.leaf (.ret [.ref 0 0 8 true 1] [some ⟨.ints .u8 (vLe n),false⟩]))
 | _,_=>none
def BVLe:Nat->Ct:=tb 92 KVBNum BVBNum
def KVReverse:Ct:=fun
 | [.ref 0 0 8 true 1],[⟨.ints .u8 l,false⟩]=>some (xbzs l,.leaf (.ret [] [some ⟨.ints .u8 (vRev l),false⟩]))
 | _,_=>none
def BVReverse:Nat->Ct:=tb 157 KVLe BVLe
def KVBe:Ct:=fun
 | [.cl (.int .u64 n),.cl (.int .i64 8)],[]=>some (u64Ok n,.leaf (.ret [.cl (.sli .u8 (vBe n))] []))
 | _,_=>none
def BVBe:Nat->Ct:=tb 158 KVReverse BVReverse
def KVR1Be:Ct:=fun
 | [.cl (.int .u64 n),.cl (.int .i64 8)],[]=>some (u64Ok n,.leaf (.ret [.cl (.sli .u8 (vBe n))] []))
 | _,_=>none
def BVR1Be:Nat->Ct:=tb 120 KVBe BVBe
def KVInt:Ct:=fun
 | [.cl (.int .i64 n)],[]=>some (qz6 n,.leaf (.ret [.cl (.agg [.int .i64 2,.sli .u8 (vInt n),.slg 3 qb7])] []))
 | _,_=>none
def BVInt:Nat->Ct:=tb 114 KVR1Be BVR1Be
def KVRInt:Ct:=fun
 | [.cl (.int .i64 n)],[]=>some (qz6 n,.leaf (.ret [.cl (.agg [.int .i64 2,.sli .u8 (vInt n),.slg 3 qb7])] []))
 | _,_=>none
def BVRInt:Nat->Ct:=tb 71 KVInt BVInt
def KVNumber:Ct:=fun
 | [.cl (.sli .u8 b)],[]=>some (qad b,.leaf (.ret [.cl (.int .i64 ((qpq b).1)),.cl (.int .i64 ((qpq b).2))] []))
 | _,_=>none
def BVNumber:Nat->Ct:=tb 65 KVRInt BVRInt
def xbaj:Ct:=fun
 | [.cl (.agg [.int .i64 t,.sli .u8 b,.slg 3 k]),.cl (.int .i64 2),.cl (.fn (.func 53) [] [])],[]=>some (isS [.int .i64 t,.sli .u8 b,.slg 3 k],.leaf (.ret [.cl (.int .i64 ((qdo t b k).1)),.cl (.int .i64 ((qdo t b k).2))] []))
 | _,_=>none
def xbcr:Nat->Ct:=tb 53 KVNumber BVNumber
def xbda:Ct:=fun
 | [.cl (.agg [.int .i64 t,.sli .u8 b,.slg 3 k]),.cl (.int .i64 6),.cl (.fn (.func 134) [] [])],[]=>some (isS [.int .i64 t,.sli .u8 b,.slg 3 k],.leaf (.ret [.cl (.sli .u32 ((qp0 t b k).1)),.cl (.int .i64 ((qp0 t b k).2))] []))
 | _,_=>none
def xbay:Nat->Ct:=tb 52 xbaj xbcr
def xbgx:Ct:=fun
 | [.cl (.agg [.int .i64 t,.sli .u8 b,.slg 3 k])],[]=>some (isS [.int .i64 t,.sli .u8 b,.slg 3 k],.leaf (.ret [.cl (.int .i64 ((qdo t b k).1)),.cl (.int .i64 ((qdo t b k).2))] []))
 | _,_=>none
def xbgy:Nat->Ct:=tb 137 xbda xbay
def qy1:Ct:=fun
 | [.cl (.agg [.int .i64 t,.sli .u8 b,.slg 3 k])],[]=>some (isS [.int .i64 t,.sli .u8 b,.slg 3 k],.leaf (.ret [.cl (.sli .u8 ((qbb t b k).1)),.cl (.int .i64 ((qbb t b k).2))] []))
 | _,_=>none
def qwq:Nat->Ct:=tb 25 xbgx xbgy
def xbpz:Ct:=fun
 | [.cl (.agg [.int .i64 t,.sli .u8 b,.slg 3 k])],[]=>some (isS [.int .i64 t,.sli .u8 b,.slg 3 k],.leaf (.ret [.cl (.sli .u32 ((qp0 t b k).1)),.cl (.int .i64 ((qp0 t b k).2))] []))
 | _,_=>none
def xbo0:Nat->Ct:=tb 140 qy1 qwq
def KVMade:Ct:=fun
 | [.cl (.int .i64 g),.cl (.sli .u8 b)],[]=>some (qq3 g b,.leaf (.ret [.cl (.agg [.int .i64 ((qfy g b).1),.sli .u8 ((qfy g b).2.1),.slg 3 qb7]),.cl (.int .i64 ((qfy g b).2.2))] []))
 | _,_=>none
def BVMade:Nat->Ct:=tb 93 xbpz xbo0
def KVId:Ct:=fun
 | [.cl (.sli .u32 o)],[]=>some (idOk o,.leaf (.ret [.cl (.agg [.int .i64 ((qfy 6 (qa3 o)).1),.sli .u8 ((qfy 6 (qa3 o)).2.1),.slg 3 qb7]),.cl (.int .i64 ((qfy 6 (qa3 o)).2.2))] []))
 | _,_=>none
def BVId:Nat->Ct:=tb 155 KVMade BVMade
def KVBytes:Ct:=fun
 | [.cl (.sli .u8 b)],[]=>some (qcc b,.leaf (.ret [.cl (.agg [.int .i64 4,.sli .u8 b,.slg 3 qb7])] []))
 | _,_=>none
def BVBytes:Nat->Ct:=tb 118 KVId BVId
def KVRMade:Ct:=fun
 | [.cl (.int .i64 g),.cl (.sli .u8 b)],[]=>some (qq3 g b,.leaf (.ret [.cl (.agg [.int .i64 ((qfy g b).1),.sli .u8 ((qfy g b).2.1),.slg 3 qb7]),.cl (.int .i64 ((qfy g b).2.2))] []))
 | _,_=>none
def BVRMade:Nat->Ct:=tb 119 KVBytes BVBytes
def KVRId:Ct:=fun
 | [.cl (.sli .u32 o)],[]=>some (idOk o,.leaf (.ret [.cl (.agg [.int .i64 ((qfy 6 (qa3 o)).1),.sli .u8 ((qfy 6 (qa3 o)).2.1),.slg 3 qb7]),.cl (.int .i64 ((qfy 6 (qa3 o)).2.2))] []))
 | _,_=>none
def BVRId:Nat->Ct:=tb 153 KVRMade BVRMade
def KVRBytes:Ct:=fun
 | [.cl (.sli .u8 b)],[]=>some (qcc b,.leaf (.ret [.cl (.agg [.int .i64 4,.sli .u8 b,.slg 3 qb7])] []))
 | _,_=>none
def BVRBytes:Nat->Ct:=tb 112 KVRId BVRId
def KVClone:Ct:=fun
 | [.cl (.slg 3 l)],[]=>some (qbr l,.leaf (.ret [.cl (.slg 3 l)] []))
 | _,_=>none
def BVClone:Nat->Ct:=tb 113 KVRBytes BVRBytes
def KVSeq:Ct:=fun
 | [.cl (.slg 3 l)],[]=>some (qbr l,.leaf (.ret [.cl (.agg [.int .i64 48,.sli .u8 qa0,.slg 3 l])] []))
 | _,_=>none
def BVSeq:Nat->Ct:=tb 51 KVClone BVClone
def KVBox:Ct:=fun
 | [.cl (.int .i64 g),.cl (.slg 3 l)],[]=>some (qbr l,.leaf (.ret [.cl (.agg [.int .i64 ((vBox g l).1),.sli .u8 qa0,.slg 3 ((vBox g l).2.1)]),.cl (.int .i64 ((vBox g l).2.2))] []))
 | _,_=>none
def BVBox:Nat->Ct:=tb 70 KVSeq BVSeq
def KVKids:Ct:=fun
 | [.cl (.agg [.int .i64 t,.sli .u8 b,.slg 3 k]),.cl (.int .i64 g)],[]=>some (qbr k,.leaf (.ret [.cl (.slg 3 ((qb8 g t b k).1)),.cl (.int .i64 ((qb8 g t b k).2))] []))
 | _,_=>none
def BVKids:Nat->Ct:=tb 165 KVBox BVBox
def KVRSeq:Ct:=fun
 | [.cl (.slg 3 l)],[]=>some (qbr l,.leaf (.ret [.cl (.agg [.int .i64 48,.sli .u8 qa0,.slg 3 l])] []))
 | _,_=>none
def BVRSeq:Nat->Ct:=tb 24 KVKids BVKids
def KVRBox:Ct:=fun
 | [.cl (.int .i64 g),.cl (.slg 3 l)],[]=>some (qbr l,.leaf (.ret [.cl (.agg [.int .i64 ((vBox g l).1),.sli .u8 qa0,.slg 3 ((vBox g l).2.1)]),.cl (.int .i64 ((vBox g l).2.2))] []))
 | _,_=>none
def BVRBox:Nat->Ct:=tb 64 KVRSeq BVRSeq
def KAAll:Ct:=fun
 | [],[]=>some (true,.leaf (.ret [.cl (.fn (.func 175) [] [])] []))
 | _,_=>none
def BAAll:Nat->Ct:=tb 130 KVRBox BVRBox
def SAFound:List V->List Obj->Tree:=fun xs obs=>match xs,obs with
 | [.cl (.int .i64 g)],[]=>.leaf (.ret [.cl (.agg [.int .i64 ((qa4 g).1),.int .i64 ((qa4 g).2.1),.sli .u32 ((qa4 g).2.2)])] [])
 | _,_=>.fail
def qxh:List V->List Obj->Bool:=fun xs obs=>match xs,obs with
 | [.cl (.int .i64 g)],[]=>true
 | _,_=>false
def BAFound:Nat->Ct:=tb 138 KAAll BAAll
def KAGroup:Ct:=fun
 | [.cl (.int .i64 g)],[]=>some (true,.leaf (.ret [.cl (.int .i64 ((qa4 g).2.1))] []))
 | _,_=>none
def BAGroup:Nat->Ct:=tb 116 (ofS qxh SAFound) BAFound
def KAId:Ct:=fun
 | [.cl (.int .i64 g)],[]=>some (true,.leaf (.ret [.cl (.sli .u32 ((qa4 g).2.2))] []))
 | _,_=>none
def BAId:Nat->Ct:=tb 96 KAGroup BAGroup
def SAOf:List V->List Obj->Tree:=fun xs obs=>match xs,obs with
 | [.cl (.sli .u32 o)],[]=>.leaf (.ret [.cl (.int .i64 (q1k o))] [])
 | _,_=>.fail
def xbtt:List V->List Obj->Bool:=fun xs obs=>match xs,obs with
 | [.cl (.sli .u32 o)],[]=>true
 | _,_=>false
def BAOf:Nat->Ct:=tb 164 KAId BAId
def KARGroup:Ct:=fun
 | [.cl (.int .i64 g)],[]=>some (true,.leaf (.ret [.cl (.int .i64 ((qa4 g).2.1))] []))
 | _,_=>none
def BARGroup:Nat->Ct:=tb 94 (ofS xbtt SAOf) BAOf
def KARNist:Ct:=fun
 | [.cl (.int .u32 g),.cl (.int .u32 h)],[]=>some (true,.leaf (.ret [.cl (.sli .u32 (qjl g h))] []))
 | _,_=>none
def BARNist:Nat->Ct:=tb 108 KARGroup BARGroup
def KARPkcs:Ct:=fun
 | [.cl (.sli .u32 o)],[]=>some (qcc o,.leaf (.ret [.cl (.sli .u32 (qup o))] []))
 | _,_=>none
def BARPkcs:Nat->Ct:=tb 151 KARNist BARNist
def KARId:Ct:=fun
 | [.cl (.int .i64 g)],[]=>some (true,.leaf (.ret [.cl (.sli .u32 ((qa4 g).2.2))] []))
 | _,_=>none
def BARId:Nat->Ct:=tb 152 KARPkcs BARPkcs
def KAUsed:Ct:=fun
 | [.cl (.int .i64 g)],[]=>some (true,.leaf (.ret [.cl (.int .i64 (qjm g))] []))
 | _,_=>none
def BAUsed:Nat->Ct:=tb 110 KARId BARId
def KANode:Ct:=fun
 | [.cl (.int .i64 g),.cl (.sli .u8 b)],[]=>some (qcc b,.leaf (.ret [.cl (.agg [.int .i64 ((qbw g b).1),.sli .u8 qa0,.slg 3 ((qbw g b).2.1)]),.cl (.int .i64 ((qbw g b).2.2))] []))
 | _,_=>none
def BANode:Nat->Ct:=tb 117 KAUsed BAUsed
def KARNode:Ct:=fun
 | [.cl (.int .i64 g),.cl (.sli .u8 b)],[]=>some (qcc b,.leaf (.ret [.cl (.agg [.int .i64 ((qbw g b).1),.sli .u8 qa0,.slg 3 ((qbw g b).2.1)]),.cl (.int .i64 ((qbw g b).2.2))] []))
 | _,_=>none
def BARNode:Nat->Ct:=tb 69 KANode BANode
def KATail:Ct:=fun
 | [.cl (.int .i64 g),.cl (.slg 3 l)],[]=>some (q40 l,.leaf (.ret [.cl (.sli .u8 ((qhr g l).1)),.cl (.bool ((qhr g l).2))] []))
 | _,_=>none
def BATail:Nat->Ct:=tb 63 KARNode BARNode
def KARead:Ct:=fun
 | [.cl (.agg [.int .i64 t,.sli .u8 b,.slg 3 k])],[]=>some (isS [.int .i64 t,.sli .u8 b,.slg 3 k],.leaf (.ret [.cl (.int .i64 ((qet t b k).1)),.cl (.sli .u8 ((qet t b k).2.1)),.cl (.int .i64 ((qet t b k).2.2))] []))
 | _,_=>none
def BARead:Nat->Ct:=tb 95 KATail BATail
def KMSize:Ct:=fun
 | [.cl (.int .i64 k)],[]=>some (true,.leaf (.ret [.cl (.int .i64 (qp2 k))] []))
 | _,_=>none
def BMSize:Nat->Ct:=tb 55 KARead BARead
def KR9Size:Ct:=fun
 | [.cl (.int .i64 k)],[]=>some (true,.leaf (.ret [.cl (.int .i64 (qp2 k))] []))
 | _,_=>none
def BR9Size:Nat->Ct:=tb 168 KMSize BMSize
def KFDig:Ct:=fun
 | [.cl (.sli .u8 b),.ptr 0 0 0],[⟨.var [.cl (.int .i64 s)],false⟩]=>some (qcc b,.leaf (.ret [.cl (.agg [.int .i64 4,.sli .u8 b,.slg 3 qb7]),.cl (.bool (decide ((b.length:Int)=s)))] [some ⟨.var [.cl (.int .i64 s)],false⟩]))
 | _,_=>none
def BFDig:Nat->Ct:=tb 131 KR9Size BR9Size
def KEDig:Ct:=fun
 | [.cl (.slg 1 l),.cl (.int .i64 lo),.cl (.int .i64 hi),.fn (.func 188) [] [.ptr 0 0 0]],[⟨.var [.cl (.int .i64 s)],false⟩]=>some (qjw l,.leaf (.ret [.cl (.slg 3 (dgL s lo hi l)),.cl (.bool (dgB s lo hi l))] [some ⟨.var [.cl (.int .i64 s)],false⟩]))
 | _,_=>none
def BEDig:Nat->Ct:=tb 188 KFDig BFDig
def xbsf:Ct:=fun
 | [.cl (.slg 1 l),.cl (.int .i64 lo),.cl (.int .i64 hi),.fn (.func 188) [] [.ptr 0 0 0]],[⟨.var [.cl (.int .i64 s)],false⟩]=>some (qjw l,.leaf (.ret [.cl (.agg [.int .i64 48,.sli .u8 qa0,.slg 3 (dgL s lo hi l)]),.cl (.bool (dgB s lo hi l))] [some ⟨.var [.cl (.int .i64 s)],false⟩]))
 | _,_=>none
def xbq8:Nat->Ct:=tb 194 KEDig BEDig
def KFPart:Ct:=fun
 | [.cl (.slg 1 l),.ptr 0 0 0],[⟨.var [.cl (.int .i64 s)],false⟩]=>some (qjw l,.leaf (.ret [.cl (.agg [.int .i64 48,.sli .u8 qa0,.slg 3 (dgL s 1 64 l)]),.cl (.bool (dgB s 1 64 l))] [some ⟨.var [.cl (.int .i64 s)],false⟩]))
 | _,_=>none
def BFPart:Nat->Ct:=tb 187 xbsf xbq8
def KEPart:Ct:=fun
 | [.cl (.int .i64 s)],[]=>some (true,.leaf (.ret [.fn (.func 186) [] [.ptr 0 0 0]] [some ⟨.var [.cl (.int .i64 s)],false⟩]))
 | _,_=>none
def BEPart:Nat->Ct:=tb 186 KFPart BFPart
def KEPar:Ct:=fun
 | [.cl (.slg 1 l),.cl (.int .i64 lo),.cl (.int .i64 hi),.fn (.func 186) [] [.ptr 0 0 0]],[⟨.var [.cl (.int .i64 s)],false⟩]=>some (qjr l,.leaf (.ret [.cl (.slg 3 (xb01 s lo hi l)),.cl (.bool (xb0f s lo hi l))] [some ⟨.var [.cl (.int .i64 s)],false⟩]))
 | _,_=>none
def BEPar:Nat->Ct:=tb 167 KEPart BEPart
def xbff:Ct:=fun
 | [.cl (.agg [.int .i64 d,.slg 1 t,.sli .u8 w])],[]=>some (qjr t&&qad w,.leaf (.ret [.cl (.agg [.int .i64 ((q59 d t w).1),.sli .u8 qa0,.slg 3 ((q59 d t w).2)]),.cl (.bool (qz1 d t w))] []))
 | _,_=>none
def xbet:Nat->Ct:=tb 166 KEPar BEPar
def KEMar:Ct:=fun
 | [.cl (.slg 3 l),.cl (.int .i64 lo),.cl (.int .i64 hi),.cl (.fn (.func 127) [] [])],[]=>some (qe6 l,.leaf (.ret [.cl (.slg 3 (qr8 lo hi l)),.cl (.bool (qsa lo hi l))] []))
 | _,_=>none
def BEMar:Nat->Ct:=tb 127 xbff xbet
def xbri:Ct:=fun
 | [.cl (.slg 3 l),.cl (.int .i64 lo),.cl (.int .i64 hi),.cl (.fn (.func 127) [] [])],[]=>some (qe6 l,.leaf (.ret [.cl (.agg [.int .i64 48,.sli .u8 qa0,.slg 3 (qr8 lo hi l)]),.cl (.bool (qsa lo hi l))] []))
 | _,_=>none
def xbuf:Nat->Ct:=tb 163 KEMar BEMar
def q4i:Ct:=fun
 | [.cl (.slg 3 l)],[]=>some (qe6 l,.leaf (.ret [.cl (.agg [.int .i64 48,.sli .u8 qa0,.slg 3 (qr8 1 20 l)]),.cl (.bool (qsa 1 20 l))] []))
 | _,_=>none
def q2c:Nat->Ct:=tb 126 xbri xbuf
def KECha:Ct:=fun
 | [.cl (.slg 1 l),.cl (.int .i64 lo),.cl (.int .i64 hi),.cl (.fn (.func 76) [] [])],[]=>some (qa9 l,.leaf (.ret [.cl (.slg 3 (qqc lo hi l)),.cl (.bool (qn8 lo hi l))] []))
 | _,_=>none
def BECha:Nat->Ct:=tb 76 q4i q2c
def xbto:Ct:=fun
 | [.cl (.slg 1 l),.cl (.int .i64 lo),.cl (.int .i64 hi),.cl (.fn (.func 76) [] [])],[]=>some (qa9 l,.leaf (.ret [.cl (.agg [.int .i64 48,.sli .u8 qa0,.slg 3 (qqc lo hi l)]),.cl (.bool (qn8 lo hi l))] []))
 | _,_=>none
def xbtz:Nat->Ct:=tb 125 KECha BECha
def qx5:Ct:=fun
 | [.cl (.slg 1 l)],[]=>some (qa9 l,.leaf (.ret [.cl (.agg [.int .i64 48,.sli .u8 qa0,.slg 3 (qqc 1 10 l)]),.cl (.bool (qn8 1 10 l))] []))
 | _,_=>none
def qwk:Nat->Ct:=tb 75 xbto xbtz
def xbds:List V->List Obj->Tree:=fun xs obs=>match xs,obs with
 | [.nils,.cl (.int .i64 n)],[]=>.leaf (.ret [.ref 0 0 0 true 3] [some ⟨.gen 3 qb7,false⟩])
 | _,_=>.fail
def qqg:List V->List Obj->Bool:=fun xs obs=>match xs,obs with
 | [.nils,.cl (.int .i64 n)],[]=>q1i n
 | _,_=>false
def xbmp:Nat->Ct:=tb 37 qx5 qwk
def qy3:Ct:=fun
 | [.cl (.slg 1 l)],[]=>some (qa9 l,.leaf (.ret [.cl (.slg 3 (xbuw l))] []))
 | _,_=>none
def qv9:Nat->Ct:=tb 79 (ofS qqg xbds) xbmp
def q4o:Ct:=fun
 | [.cl (.sli .i64 l),.cl (.int .i64 d)],[]=>some (qdt l,.leaf (.ret [.cl (.int .i64 (idxI l d))] []))
 | _,_=>none
def q2l:Nat->Ct:=tb 40 qy3 qv9
def xbor:Ct:=fun
 | [.cl (.sli .i64 l),.cl (.int .i64 d)],[]=>some (qdt l,.leaf (.ret [.cl (.bool (hasI l d))] []))
 | _,_=>none
def xbr8:Nat->Ct:=tb 80 q4o q2l
def xb6g:Ct:=fun
 | [.cl (.sli .i64 a),.cl (.sli .i64 b)],[]=>some (qdt a,.leaf (.ret [.cl (.bool (xbhm a b))] []))
 | _,_=>none
def xb5z:Nat->Ct:=tb 41 xbor xbr8
def xbd0:Ct:=fun
 | [.cl (.sli .i64 a),.cl (.sli .i64 b)],[]=>some (qdt a,.leaf (.ret [.cl (.bool (xbhm a b))] []))
 | _,_=>none
def xbdd:Nat->Ct:=tb 42 xb6g xb5z
def KEDigests:Ct:=fun
 | [.cl (.slg 1 l)],[]=>some (qa9 l,.leaf (.ret [.cl (.sli .i64 (qsu l))] []))
 | _,_=>none
def BEDigests:Nat->Ct:=tb 32 xbd0 xbdd
def KRDigests:Ct:=fun
 | [.cl (.slg 1 l)],[]=>some (qa9 l,.leaf (.ret [.cl (.sli .i64 (qsu l))] []))
 | _,_=>none
def BRDigests:Nat->Ct:=tb 21 KEDigests BEDigests
def xbum:Ct:=fun
 | [.cl (.int .i64 g)],[]=>some (true,.leaf (.ret [.cl (.agg [.int .i64 ((qbw g qa0).1),.sli .u8 qa0,.slg 3 ((qbw g qa0).2.1)]),.cl (.bool (decide ((qbw g qa0).2.2=0)))] []))
 | _,_=>none
def xbpk:Nat->Ct:=tb 17 KRDigests BRDigests
def KEAlg:Ct:=fun
 | [.cl (.sli .i64 l),.cl (.int .i64 lo),.cl (.int .i64 hi),.cl (.fn (.func 68) [] [])],[]=>some (qtz l,.leaf (.ret [.cl (.slg 3 (xbl7 lo hi l)),.cl (.bool (xbsw lo hi l))] []))
 | _,_=>none
def BEAlg:Nat->Ct:=tb 68 xbum xbpk
def xboh:Ct:=fun
 | [.cl (.sli .i64 l),.cl (.int .i64 lo),.cl (.int .i64 hi),.cl (.fn (.func 68) [] [])],[]=>some (qtz l,.leaf (.ret [.cl (.agg [.int .i64 48,.sli .u8 qa0,.slg 3 (xbl7 lo hi l)]),.cl (.bool (xbsw lo hi l))] []))
 | _,_=>none
def xbp1:Nat->Ct:=tb 115 KEAlg BEAlg
def KERec:Ct:=fun
 | [.cl (.agg [.sli .i64 g,.slg 1 c])],[]=>some (qdt g&&recO c,.leaf (.ret [.cl (.agg [.int .i64 ((qfd g c).1),.sli .u8 qa0,.slg 3 ((qfd g c).2)]),.cl (.bool (evOk g c))] []))
 | _,_=>none
def BERec:Nat->Ct:=tb 67 xboh xbp1
def KERFit:Ct:=fun
 | [.cl (.agg [.sli .i64 g,.slg 1 c])],[]=>some (qdt g&&recO c,.leaf (.ret [.cl (.bool (evOk g c))] []))
 | _,_=>none
def BERFit:Nat->Ct:=tb 35 KERec BERec
def KERBytes:Ct:=fun
 | [.cl (.agg [.sli .i64 g,.slg 1 c])],[]=>some (qdt g&&recO c,.leaf (.ret [.cl (.sli .u8 ((qfe g c).1)),.cl (.int .i64 ((qfe g c).2))] []))
 | _,_=>none
def BERBytes:Nat->Ct:=tb 15 KERFit BERFit
def KERSeq:Ct:=fun
 | [.cl (.agg [.sli .i64 g,.slg 1 c]),.cl (.int .i64 n)],[]=>some (qdt g&&recO c,.leaf (.ret [.cl (.sli .u8 ((q2d g c n).1)),.cl (.int .i64 ((q2d g c n).2))] []))
 | _,_=>none
def BERSeq:Nat->Ct:=tb 13 KERBytes BERBytes
def KRMark:Ct:=fun
 | [.cl (.agg [.int .i64 d,.slg 1 t,.sli .u8 w])],[]=>some (qjr t&&qad w,.leaf (.ret [.cl (.agg [.int .i64 ((q1o d t w).1),.sli .u8 qa0,.slg 3 ((q1o d t w).2)]),.cl (.bool (qz1 d t w))] []))
 | _,_=>none
def BRMark:Nat->Ct:=tb 18 KERSeq BERSeq
def KRChains:Ct:=fun
 | [.cl (.slg 1 l)],[]=>some (qa9 l,.leaf (.ret [.cl (.agg [.int .i64 ((qj0 l).1),.sli .u8 qa0,.slg 3 ((qj0 l).2)]),.cl (.bool (qn8 1 10 l))] []))
 | _,_=>none
def BRChains:Nat->Ct:=tb 78 KRMark BRMark
def KRRec:Ct:=fun
 | [.cl (.agg [.sli .i64 g,.slg 1 c])],[]=>some (qdt g&&recO c,.leaf (.ret [.cl (.agg [.int .i64 ((qfd g c).1),.sli .u8 qa0,.slg 3 ((qfd g c).2)]),.cl (.bool (evOk g c))] []))
 | _,_=>none
def BRRec:Nat->Ct:=tb 39 KRChains BRChains
def KRRFit:Ct:=fun
 | [.cl (.agg [.sli .i64 g,.slg 1 c])],[]=>some (qdt g&&recO c,.leaf (.ret [.cl (.bool (evOk g c))] []))
 | _,_=>none
def BRRFit:Nat->Ct:=tb 34 KRRec BRRec
def KRRBytes:Ct:=fun
 | [.cl (.agg [.sli .i64 g,.slg 1 c])],[]=>some (qdt g&&recO c,.leaf (.ret [.cl (.sli .u8 ((qfe g c).1)),.cl (.int .i64 ((qfe g c).2))] []))
 | _,_=>none
def BRRBytes:Nat->Ct:=tb 12 KRRFit BRRFit
def KRRSeq:Ct:=fun
 | [.cl (.agg [.sli .i64 g,.slg 1 c]),.cl (.int .i64 n)],[]=>some (qdt g&&recO c,.leaf (.ret [.cl (.sli .u8 ((q2d g c n).1)),.cl (.int .i64 ((q2d g c n).2))] []))
 | _,_=>none
def BRRSeq:Nat->Ct:=tb 19 KRRBytes BRRBytes
def xbcb:Ct:=fun
 | [.cl (.agg [.int .i64 t,.sli .u8 b,.slg 3 k])],[]=>some (isS [.int .i64 t,.sli .u8 b,.slg 3 k],.leaf (.ret [.cl (.sli .u8 ((qbb t b k).1)),.cl (.bool (decide ((qbb t b k).2=0)))] []))
 | _,_=>none
def xbc9:Nat->Ct:=tb 20 KRRSeq BRRSeq
def xbti:Ct:=fun
 | [.cl (.slg 3 l),.cl (.int .i64 lo),.cl (.int .i64 hi),.cl (.fn (.func 143) [] [])],[]=>some (qgv l,.leaf (.ret [.cl (.slg 1 (q0v lo hi l)),.cl (.bool (q1c lo hi l))] []))
 | _,_=>none
def xbqb:Nat->Ct:=tb 143 xbcb xbc9
def xbs4:Ct:=fun
 | [.cl (.agg [.int .i64 t,.sli .u8 b,.slg 3 k]),.cl (.int .i64 g),.cl (.fn (.func 143) [] [])],[]=>some (isS [.int .i64 t,.sli .u8 b,.slg 3 k],.leaf (.ret [.cl (.slg 1 (ldL g t b k)),.cl (.bool (ldB g t b k))] []))
 | _,_=>none
def xbqj:Nat->Ct:=tb 178 xbti xbqb
def q44:Ct:=fun
 | [.cl (.agg [.int .i64 t,.sli .u8 b,.slg 3 k])],[]=>some (isS [.int .i64 t,.sli .u8 b,.slg 3 k],.leaf (.ret [.cl (.slg 1 (ldL 48 t b k)),.cl (.bool (ldB 48 t b k))] []))
 | _,_=>none
def q3r:Nat->Ct:=tb 142 xbs4 xbqj
def xbqx:Ct:=fun
 | [.cl (.slg 3 l),.cl (.int .i64 lo),.cl (.int .i64 hi),.cl (.fn (.func 99) [] [])],[]=>some (qgv l,.leaf (.ret [.cl (.slg 1 (qq5 lo hi l)),.cl (.bool (qsl lo hi l))] []))
 | _,_=>none
def xbrt:Nat->Ct:=tb 99 q44 q3r
def xbsg:Ct:=fun
 | [.cl (.agg [.int .i64 t,.sli .u8 b,.slg 3 k]),.cl (.int .i64 g),.cl (.fn (.func 99) [] [])],[]=>some (isS [.int .i64 t,.sli .u8 b,.slg 3 k],.leaf (.ret [.cl (.slg 1 (lpL g t b k)),.cl (.bool (lpB g t b k))] []))
 | _,_=>none
def xbug:Nat->Ct:=tb 141 xbqx xbrt
def q2z:Ct:=fun
 | [.cl (.agg [.int .i64 t,.sli .u8 b,.slg 3 k])],[]=>some (isS [.int .i64 t,.sli .u8 b,.slg 3 k],.leaf (.ret [.cl (.int .i64 ((kindOf t b k).1)),.cl (.bool ((kindOf t b k).2))] []))
 | _,_=>none
def q3j:Nat->Ct:=tb 98 xbsg xbug
def q3q:Ct:=fun
 | [.cl (.agg [.int .i64 t,.sli .u8 b,.slg 3 k])],[]=>some (isS [.int .i64 t,.sli .u8 b,.slg 3 k],.leaf (.ret [.cl (.agg [.int .i64 ((qm7 t b k).1),.slg 1 ((qm7 t b k).2.1),.sli .u8 ((qm7 t b k).2.2.1)]),.cl (.bool ((qm7 t b k).2.2.2))] []))
 | _,_=>none
def q2u:Nat->Ct:=tb 100 q2z q3j
def xbs6:Ct:=fun
 | [.cl (.slg 3 l),.cl (.int .i64 lo),.cl (.int .i64 hi),.cl (.fn (.func 58) [] [])],[]=>some (qgv l,.leaf (.ret [.cl (.slg 3 (qse lo hi l)),.cl (.bool (qsb lo hi l))] []))
 | _,_=>none
def xbqz:Nat->Ct:=tb 58 q3q q2u
def xbsp:Ct:=fun
 | [.cl (.agg [.int .i64 t,.sli .u8 b,.slg 3 k]),.cl (.int .i64 g),.cl (.fn (.func 58) [] [])],[]=>some (isS [.int .i64 t,.sli .u8 b,.slg 3 k],.leaf (.ret [.cl (.slg 3 (lmL g t b k)),.cl (.bool (lmB g t b k))] []))
 | _,_=>none
def xbpf:Nat->Ct:=tb 97 xbs6 xbqz
def qww:Ct:=fun
 | [.cl (.agg [.int .i64 t,.sli .u8 b,.slg 3 k])],[]=>some (isS [.int .i64 t,.sli .u8 b,.slg 3 k],.leaf (.ret [.cl (.slg 3 (lmL 48 t b k)),.cl (.bool (lmB 48 t b k))] []))
 | _,_=>none
def qwu:Nat->Ct:=tb 57 xbsp xbpf
def xbpd:Ct:=fun
 | [.cl (.slg 3 l),.cl (.int .i64 lo),.cl (.int .i64 hi),.cl (.fn (.func 29) [] [])],[]=>some (qgv l,.leaf (.ret [.cl (.slg 1 (qns lo hi l)),.cl (.bool (qnb lo hi l))] []))
 | _,_=>none
def xboy:Nat->Ct:=tb 29 qww qwu
def xbqu:Ct:=fun
 | [.cl (.agg [.int .i64 t,.sli .u8 b,.slg 3 k]),.cl (.int .i64 g),.cl (.fn (.func 29) [] [])],[]=>some (isS [.int .i64 t,.sli .u8 b,.slg 3 k],.leaf (.ret [.cl (.slg 1 (lcL g t b k)),.cl (.bool (lcB g t b k))] []))
 | _,_=>none
def xbp0:Nat->Ct:=tb 56 xbpd xboy
def xbgo:Ct:=fun
 | [.cl (.agg [.int .i64 t,.sli .u8 b,.slg 3 k])],[]=>some (isS [.int .i64 t,.sli .u8 b,.slg 3 k],.leaf (.ret [.cl (.int .i64 ((qet t b k).1)),.cl (.bool (decide ((qet t b k).2.2=0)))] []))
 | _,_=>none
def xbbq:Nat->Ct:=tb 28 xbqu xbp0
def xbus:Ct:=fun
 | [.cl (.slg 3 l),.cl (.int .i64 lo),.cl (.int .i64 hi),.cl (.fn (.func 27) [] [])],[]=>some (qgv l,.leaf (.ret [.cl (.sli .i64 (qzb lo hi l)),.cl (.bool (qzu lo hi l))] []))
 | _,_=>none
def xbr3:Nat->Ct:=tb 27 xbgo xbbq
def xbth:Ct:=fun
 | [.cl (.agg [.int .i64 t,.sli .u8 b,.slg 3 k]),.cl (.int .i64 g),.cl (.fn (.func 27) [] [])],[]=>some (isS [.int .i64 t,.sli .u8 b,.slg 3 k],.leaf (.ret [.cl (.sli .i64 (laL g t b k)),.cl (.bool (laB g t b k))] []))
 | _,_=>none
def xbur:Nat->Ct:=tb 54 xbus xbr3
def KEParse:Ct:=fun
 | [.cl (.sli .u8 b)],[]=>some (qad b&&b6k b,.leaf (.ret [.cl (.agg [.sli .i64 ((qnu b).1),.slg 1 ((qnu b).2.1)]),.cl (.int .i64 ((qnu b).2.2))] []))
 | _,_=>none
def BEParse:Nat->Ct:=tb 26 xbth xbur
def KFSame3:Ct:=fun
 | [.cl (.sli .u8 a),.cl (.sli .u8 b)],[]=>some (qcc a,.leaf (.ret [.cl (.bool (qbl a b))] []))
 | _,_=>none
def BFSame3:Nat->Ct:=tb 8 KEParse BEParse
def xbdz:Ct:=fun
 | [.cl (.slg 1 a),.cl (.slg 1 b),.cl (.fn (.func 83) [] [])],[]=>some (qjw a&&qjw b,.leaf (.ret [.cl (.bool (qe7 a b))] []))
 | _,_=>none
def xbhe:Nat->Ct:=tb 83 KFSame3 BFSame3
def KFSame2:Ct:=fun
 | [.cl (.slg 1 a),.cl (.slg 1 b)],[]=>some (qjw a&&qjw b,.leaf (.ret [.cl (.bool (qe7 a b))] []))
 | _,_=>none
def BFSame2:Nat->Ct:=tb 82 xbdz xbhe
def xben:Ct:=fun
 | [.cl (.slg 1 a),.cl (.slg 1 b),.cl (.fn (.func 81) [] [])],[]=>some (qjr a&&qjr b,.leaf (.ret [.cl (.bool (qhc a b))] []))
 | _,_=>none
def xbam:Nat->Ct:=tb 81 KFSame2 BFSame2
def q2m:Ct:=fun
 | [.cl (.agg [.int .i64 d,.slg 1 t,.sli .u8 w]),.cl (.agg [.int .i64 e,.slg 1 u,.sli .u8 x])],[]=>some ((qjr t&&qcc w)&&qjr u,.leaf (.ret [.cl (.bool (q86 d t w e u x))] []))
 | _,_=>none
def q2e:Nat->Ct:=tb 85 xben xbam
def q3s:Ct:=fun
 | [.cl (.slg 3 a),.cl (.slg 3 b),.cl (.fn (.func 46) [] [])],[]=>some (qe6 a&&qe6 b,.leaf (.ret [.cl (.bool (qf3 a b))] []))
 | _,_=>none
def q1p:Nat->Ct:=tb 46 q2m q2e
def KFSame1:Ct:=fun
 | [.cl (.slg 3 a),.cl (.slg 3 b)],[]=>some (qe6 a&&qe6 b,.leaf (.ret [.cl (.bool (qf3 a b))] []))
 | _,_=>none
def BFSame1:Nat->Ct:=tb 45 q3s q1p
def qw3:Ct:=fun
 | [.cl (.slg 1 a),.cl (.slg 1 b),.cl (.fn (.func 44) [] [])],[]=>some (qa9 a&&qa9 b,.leaf (.ret [.cl (.bool (qkc a b))] []))
 | _,_=>none
def qx8:Nat->Ct:=tb 44 KFSame1 BFSame1
def KESame:Ct:=fun
 | [.cl (.agg [.sli .i64 g,.slg 1 c]),.cl (.agg [.sli .i64 h,.slg 1 e])],[]=>some (qdt g&&(qa9 c&&qa9 e),.leaf (.ret [.cl (.bool (qxs g c h e))] []))
 | _,_=>none
def BESame:Nat->Ct:=tb 43 qw3 qx8
def KR4Same:Ct:=fun
 | [.cl (.slg 1 a),.cl (.slg 1 b)],[]=>some (qjw a&&qjw b,.leaf (.ret [.cl (.bool (qe7 a b))] []))
 | _,_=>none
def BR4Same:Nat->Ct:=tb 22 KESame BESame
def KR38Same:Ct:=fun
 | [.cl (.slg 1 a),.cl (.slg 1 b)],[]=>some (qjr a&&qjr b,.leaf (.ret [.cl (.bool (qhc a b))] []))
 | _,_=>none
def BR38Same:Nat->Ct:=tb 62 KR4Same BR4Same
def KRESame:Ct:=fun
 | [.cl (.agg [.sli .i64 g,.slg 1 c]),.cl (.agg [.sli .i64 h,.slg 1 e])],[]=>some (qdt g&&(qa9 c&&qa9 e),.leaf (.ret [.cl (.bool (qxs g c h e))] []))
 | _,_=>none
def BRESame:Nat->Ct:=tb 33 KR38Same BR38Same
def KRESmall:Ct:=fun
 | [.cl (.agg [.sli .i64 g,.slg 1 c]),.cl (.int .i64 n)],[]=>some (recT g c&&q4n n,.leaf (.ret [.cl (.int .i64 (qpt g c n))] []))
 | _,_=>none
def BRESmall:Nat->Ct:=tb 10 KRESame BRESame
def KWSmall:Ct:=fun
 | [.cl (.agg [.sli .i64 g,.slg 1 c])],[]=>some (recT g c,.leaf (.ret [.cl (.bool (xbuj g c))] []))
 | _,_=>none
def BWSmall:Nat->Ct:=tb 16 KRESmall BRESmall
def KWAwake:Ct:=fun
 | [],[]=>some (true,.leaf (.ret [.cl (.bool true)] []))
 | _,_=>none
def BWAwake:Nat->Ct:=tb 11 KWSmall BWSmall
def SWTells:List V->List Obj->Tree:=fun xs obs=>match xs,obs with
 | [.cl (.agg [.sli .i64 g,.slg 1 c]),.cl (.agg [.sli .i64 h,.slg 1 e]),.cl (.int .i64 n)],[]=>.leaf (.ret [.cl (.bool true)] [])
 | _,_=>.fail
def qwl:List V->List Obj->Bool:=fun xs obs=>match xs,obs with
 | [.cl (.agg [.sli .i64 g,.slg 1 c]),.cl (.agg [.sli .i64 h,.slg 1 e]),.cl (.int .i64 n)],[]=>recT g c&&(recT h e&&qz6 n)
 | _,_=>false
def BWTells:Nat->Ct:=tb 7 KWAwake BWAwake
end
end Go.Proofs.YtoaakappnhemiaaGreatDoorA
