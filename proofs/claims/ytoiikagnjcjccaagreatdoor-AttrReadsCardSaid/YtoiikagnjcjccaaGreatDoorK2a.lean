/-
 append. Conditions: none.
-/
import Derived.Test.YtoiikagnjcjccaaGreatDoorK1b
import Derived.RangeFuncMany
import Derived.RangeFuncLeaves
import Derived.RangeFuncRecord
import Derived.RangeFuncOwn
import Derived.TacticsIn
import Derived.LoopNIn
import Derived.LoopN
import Derived.Orders
set_option linter.unusedVariables false
set_option linter.unusedSimpArgs false
set_option maxRecDepth 100000
namespace Go.Proofs.YtoiikagnjcjccaaGreatDoorA
theorem qff{r rx:Rw}{o len:Nat}{tip:Bool}(h:r.window o len tip=some rx)(hok:okR r)(h2:o+len<=r.len)(h3:tip=true->o+len=r.len):
  okR rx/\growing rx=true/\rx.esz=r.esz/\rx.len=len/\qaf rx=((qaf r).drop (o*r.esz)).take (len*r.esz):=by
 have hl: ∀ {α:Type} (l:List α),o+len<=l.length->(tip=true->o+len=l.length)->(win l o len tip).length=len:=fun l a b=>by rw[qwy a b,zbp,zat];omega
 cases r with
 | ints k l=>
  simp only[Rw.window,zaa] at h;subst h;have h2:o+len<=l.length:=h2;have h3:tip=true->o+len=l.length:=h3;exact⟨trivial,rfl,rfl,hl l h2 h3,by simp[qaf,Rw.esz,qwy h2 h3,zcx,zc3]⟩
 | arri n k l=>
  simp only[Rw.window,zaa] at h;subst h;have hok:l.length=n:=hok;have h2:o+len<=l.length:=by rw[hok];exact h2
  have h3:tip=true->o+len=l.length:=by rw[hok];exact h3
  exact⟨trivial,rfl,rfl,hl l h2 h3,by simp[qaf,Rw.esz,qwy h2 h3,zcx,zc3]⟩
 | gen e l=>
  simp only[Rw.window,zaa] at h;subst h;have h2:o+len<=l.length:=h2;have h3:tip=true->o+len=l.length:=h3;have hu: ∀c∈l,(cell1 c).length=e:=hok;have hu': ∀c∈l.drop o,(cell1 c).length=e:=fun c hc=>hu c (zbi hc);refine⟨fun c hc=>hu c (by rw[qwy h2 h3] at hc;exact zbi (zba hc)),rfl,rfl,hl l h2 h3, ?_⟩;simp only[qaf,Rw.esz,qwy h2 h3,qli len hu',qlh o hu,zc3,zcx]
 | arrg n e l=>
  simp only[Rw.window,zaa] at h;subst h;have hn:l.length=n:=hok.1;have h2:o+len<=l.length:=by rw[hn];exact h2
  have h3:tip=true->o+len=l.length:=by rw[hn];exact h3
  have hu: ∀c∈l,(cell1 c).length=e:=hok.2;have hu': ∀c∈l.drop o,(cell1 c).length=e:=fun c hc=>hu c (zbi hc);refine⟨fun c hc=>hu c (by rw[qwy h2 h3] at hc;exact zbi (zba hc)),rfl,rfl,hl l h2 h3, ?_⟩;simp only[qaf,Rw.esz,qwy h2 h3,qli len hu',qlh o hu,zc3,zcx]
 | var l=>simp[Rw.window] at h
theorem qcl{r:Rw}(hok:okR r)(hg:growing r=true):(qaf r).length=r.len*r.esz:=by
 cases r with
 | ints k l=>simp[qaf,Rw.len,Rw.esz]
 | gen e l=>simp only[qaf,Rw.len,Rw.esz,zam];exact qbr hok
 | _=>cases hg
theorem qe6{x y r:Rw}(h:qgv x y=some r)(hx:okR x)(hy:okR y):okR r/\growing r=true/\r.esz=x.esz/\r.len=x.len+y.len/\qaf r=qaf x++qaf y/\(y.esz=x.esz\/y=.gen 0 [])/\growing y=true:=by
 unfold qgv at h;split at h
 ·simp only[zaa] at h;subst h;exact⟨hx,rfl,rfl,rfl,by simp[qaf],.inr rfl,rfl⟩
 ·simp only[zaa] at h;subst h;exact⟨hx,rfl,rfl,rfl,by simp[qaf],.inr rfl,rfl⟩
 ·rename_i ka l kb m;replace h:=qaa h;obtain⟨hk,h⟩:=h;obtain rfl:ka=kb:=of_decide_eq_true hk;simp only[zaa] at h;subst h;exact⟨trivial,rfl,rfl,by simp[Rw.len],by simp[qaf],.inl rfl,rfl⟩
 ·rename_i e l e' m _;replace h:=qaa h;obtain⟨hk,h⟩:=h;obtain rfl:=qag.1 hk;simp only[zaa] at h;subst h;exact⟨fun c hc=>(zak.1 hc).elim (hx c) (hy c),rfl,rfl,by simp[Rw.len],by simp[qaf],.inl rfl,rfl⟩
 ·cases h
theorem qwp{P:Program}{w:World}{Im:Nat->Prop}{ρ:Nat->Loc}{S:Nat->Option Sh}{t e':TypeId}{size:Nat}(hk:P.underlying t=some (.slice e'))(hz:size≠0){a:Option Addr}{len cap:Nat}{C:List V}{news:List Value}(hr:Reps w Im ρ S C news)(hl:C.length=len*size)(hc: ∀(j:Nat) (u:Value),news[j]? =some u->∃ad,a=some ad/\w.cell? (ad.add j)=some u):Src P size t (.slice a len cap) len news w:=by
 cases a with
 | some ad=>
  refine Src.ofSlice w hk ad len cap news (hr.1.trans hl) (fun j u hj=> ?_) fun u hu=>xbjk (hr.2.1 u hu);obtain⟨ad',e,h⟩:=hc j u hj;simp only[zaa] at e;subst e;exact h
 | none=>
  have hn:news=[]:=by
   cases news with
   | nil=>rfl
   | cons u q=>obtain⟨ad,e,_⟩:=hc 0 u rfl;cases e
  subst hn;have h0:len*size=0:=by have:=hr.1;simp at this;omega
  have h0:len=0:=by
   rcases Nat.mul_eq_zero.1 h0 with h|h
   ·exact h
   ·exact absurd h hz
  subst h0;exact Src.ofNil w hk cap
theorem qnw{w:World}{Im:Nat->Prop}{ρ:Nat->Loc}{S:Nat->Option Sh}{r rx:Rw}{o len:Nat}{tip:Bool}(h:r.window o len tip=some rx)(h2:o+len<=r.len)(h3:tip=true->o+len=r.len){b base lim:Nat}(hO:ORep w Im ρ S r (some (b,base,lim))): ∃news,Reps w Im ρ S (qaf rx) news/\∀(j:Nat) (u:Value),news[j]? =some u->w.cell? ⟨b,base+o*r.esz+j,none⟩=some u:=by
 obtain⟨hok,_,_,_,hcells⟩:=hO;obtain⟨g1,g2,g3,g4,g5⟩:=qff h hok h2 h3;have hlen:(qaf rx).length=len*r.esz:=by rw[qcl g1 g2,g3,g4]
 obtain⟨vs,v1,v2,v3,v4⟩:=Cells.values (w:=w) (Im:=Im) (ρ:=ρ) (S:=S) (b:=b) (off:=base) (C:=qaf r) hcells (o*r.esz) (len*r.esz) (by rw[<- g5];exact hlen);rw[<- g5] at v4;exact⟨vs,⟨by rw[v1,hlen],v3,v4⟩,fun j u hj=>by have:=v2 j u hj;rwa [qd6] at this⟩
theorem qla{x y r:Rw}(h:qgv x y=some r):(y.esz=x.esz\/y=.gen 0 [])/\r.esz=x.esz:=by
 unfold qgv at h;split at h
 ·simp only[zaa] at h;subst h;exact⟨.inr rfl,rfl⟩
 ·simp only[zaa] at h;subst h;exact⟨.inr rfl,rfl⟩
 ·replace h:=qaa h;obtain⟨hk,h⟩:=h;simp only[zaa] at h;subst h;exact⟨.inl rfl,rfl⟩
 ·replace h:=qaa h;obtain⟨hk,h⟩:=h;obtain rfl:=qag.1 hk;simp only[zaa] at h;subst h;exact⟨.inl rfl,rfl⟩
 ·cases h
theorem Reps.any{w:World}{Im:Nat->Prop}{ρ ρ':Nat->Loc}{S S':Nat->Option Sh}{r:Rw}{vs:List Value}(hg:growing r=true)(h:Reps w Im ρ S (qaf r) vs):Reps w Im ρ' S' (qaf r) vs:=by refine⟨h.1,h.2.1,fun j c v hj hv=>(h.2.2 j c v hj hv).congr (fun _ _=>rfl) (fun _ h=>h) fun q hq=> ?_⟩;have:=qcz (p:=q) (r:=r) (fun l e=>by subst e;cases hg) hj;rw[this] at hq;cases hq
theorem Reps.append{w:World}{Im:Nat->Prop}{ρ:Nat->Loc}{S:Nat->Option Sh}{C D:List V}{us vs:List Value}(h:Reps w Im ρ S C us)(g:Reps w Im ρ S D vs):Reps w Im ρ S (C++D) (us++vs):=by
 obtain⟨h1,h2,h3⟩:=h;obtain⟨g1,g2,g3⟩:=g;refine⟨by simp[h1,g1],fun v hv=>(zak.1 hv).elim (h2 v) (g2 v),fun j c v hj hv=> ?_⟩;by_cases hl:j<C.length
 ·rw[zax hl] at hj;rw[zax (by omega)] at hv;exact h3 j c v hj hv
 ·rw[zav (by omega)] at hj;rw[zav (by omega),h1] at hv;exact g3 _ c v hj hv
theorem xbkd{P:Program}{H:Heap}{w:World}{Im:Nat->Prop}{ρ:Nat->Loc}(hob: ∀p o,qaj H p=some o->ORep w Im ρ (shOf H) o.row (ρ p)){y:V}{ry:Rw}(h:q2a H y=some ry){av:Value}(hv:VRep w Im ρ (shOf H) y av){t:TypeId}{size:Nat}(hz:size≠0)(hk:(∃e',P.underlying t=some (.slice e'))\/∃b,y=.cl (.str b))(hns: ∀b,y=.cl (.str b)->P.underlying t=some .string)(he:ry.esz=size\/ry=.gen 0 []):okR ry/\growing ry=true/\∃news,Src P size t av ry.len news w/\Reps w Im ρ (shOf H) (qaf ry) news:=by
 have hkind:(∀b,y≠.cl (.str b))->∃e',P.underlying t=some (.slice e'):=fun hn=>by
  rcases hk with hk|⟨b,hb⟩
  ·exact hk
  ·exact absurd hb (hn b)
 have nil0:Reps w Im ρ (shOf H) (qaf (.gen 0 [])) []:=⟨rfl,by simp,fun j c v hj=>by simp[qaf] at hj⟩;unfold q2a at h;split at h
 ·rename_i b;simp only[zaa] at h;subst h;obtain rfl:=hv.str;have h1:size=1:=by
   rcases he with he|he
   ·exact he.symm
   ·cases he
  subst h1;have hlen:(Rw.ints .u8 (bytesOf b)).len=b.size:=by simp[Rw.len,bytesOf]
  refine⟨trivial,rfl,_,by rw[hlen];exact Src.ofString w (hns b rfl) b, ?_⟩;refine⟨by simp[qaf,bytesOf,byteCells],fun v hv=>by obtain⟨_,_,rfl⟩:=za7.1 hv;rfl,fun j c v hj hv=> ?_⟩;simp only[qaf,bytesOf,zcg,zaj] at hj;simp only[byteCells,zaj] at hv
  cases hd:b.data.toList[j]? with
  | none=>rw[hd] at hj;cases hj
  | some x=>
   rw[hd] at hj hv;simp only[zap,zaa] at hj hv;subst hj hv;exact .ofInt _ _
 ·rename_i hn;obtain⟨e',hke⟩:=hkind hn;unfold xbnd at h;split at h
  ·simp only[zaa] at h;subst h;cases hv;exact⟨fun c hc=>by simp at hc,rfl,[],Src.ofNil w hke 0,nil0⟩
  ·rename_i p o len tip es;split at h
   ·rename_i ob hp;have hS:shOf H p=some (shp ob):=by simp[shOf,hp]
    have hO:=hob p ob hp
    cases hv with
    | refN _ _ _ _ _ _ _ h0 _ _=>rw[hS] at h0;cases h0
    | refV _ s _ _ h1 h2 h3 h4=>
     rw[hS] at h1;simp only[zaa] at h1;subst h1;rw[h2] at hO;have h3:ob.row.len=0:=h3;obtain⟨g1,g2,g3,g4,g5⟩:=qff h hO.2.2 (by omega) (fun _=>by omega);have hc0:(qaf ry)=[]:=by have:=qcl g1 g2;rw[g4,zc2] at this;exact zcd.1 this
     refine⟨g1,g2,[],by rw[g4];exact Src.ofNil w hke 0, ?_⟩;rw[hc0];exact⟨rfl,by simp,fun j c v hj=>by simp at hj⟩
    | ref _ _ _ _ _ s b base lim ad cap h1 h2 h3 h4 h5 h6 h7 h8=>
     rw[hS] at h1;simp only[zaa] at h1;subst h1;rw[h2] at hO;have h3:ob.row.esz=es:=h3;obtain⟨g1,g2,g3,g4,g5⟩:=qff h hO.1 h5 h6;obtain⟨news,n1,n2⟩:=qnw h h5 h6 hO;have hlen:=qcl g1 g2;refine⟨g1,g2,news, ?_,n1⟩;rw[g4];refine qwp hke hz n1 ?_ fun j u hj=>⟨ad,rfl, ?_⟩
     ·rw[hlen,g4];rcases he with he|he
      ·rw[he]
      ·subst he;have:len=0:=by rw[<- g4];rfl
       subst this;simp
     ·have hjl:=(zad.1 hj).1;rw[n1.1,hlen,g4] at hjl;have hlp:len≠0:=fun e=>by subst e;simp at hjl
      rw[h7 (by omega),qd6, <- h3];exact n2 j u hj
   ·cases h
  ·rename_i kk l;simp only[zaa] at h;subst h;have h1:size=1:=by
    rcases he with he|he
    ·exact he.symm
    ·cases he
   subst h1
   cases hv.closed with
   | sli _ _ a len cap g1 g2 g3=>
    refine⟨trivial,rfl,l.map (.int kk), ?_,by simp[qaf],fun v hv=>by obtain⟨_,_,rfl⟩:=za7.1 hv;rfl,fun j c v hj hv=> ?_⟩
    ·have hr:Reps w Im ρ (shOf H) (qaf (.ints kk l)) (l.map (.int kk)):=⟨by simp[qaf],fun v hv=>by obtain⟨_,_,rfl⟩:=za7.1 hv;rfl,fun j c v hj hv=>by
      simp only[qaf,zaj] at hj hv
      cases hd:l[j]? with
      | none=>rw[hd] at hj;cases hj
      | some x=>
       rw[hd] at hj hv;simp only[zap,zaa] at hj hv;subst hj hv;exact .ofInt _ _⟩
     have hl:(Rw.ints kk l).len=len:=g1;rw[hl];refine qwp hke hz hr (by simp[qaf,g1]) fun j u hj=> ?_;rw[zaj] at hj
     cases hd:l[j]? with
     | none=>rw[hd] at hj;cases hj
     | some x=>
      rw[hd] at hj;simp only[zap,zaa] at hj;subst hj;obtain⟨ad,q1,_,q2⟩:=g3 j x hd;exact⟨ad,q1,q2⟩
    ·simp only[qaf,zaj] at hj hv
     cases hd:l[j]? with
     | none=>rw[hd] at hj;cases hj
     | some x=>
      rw[hd] at hj hv;simp only[zap,zaa] at hj hv;subst hj hv;exact .ofInt _ _
  ·rename_i es l;simp only[zaa] at h;subst h
   cases hv.closed with
   | slg _ _ a len cap f g0 g1 g2 g3 g5 g4=>
    have hfl:(l.flatMap cell1).length=l.length*es:=qbr g0;have hgetf: ∀(j:Nat) (v:Value),((List.range (l.flatMap cell1).length).map f)[j]? =some v->∃c,(l.flatMap cell1)[j]? =some c/\v=f j:=fun j v hj=>by
     have hjl:j<(l.flatMap cell1).length:=by have:=(zad.1 hj).1;simpa using this
     rw[zaj,zcl hjl] at hj;simp only[zap,zaa] at hj;exact⟨_,zae hjl,hj.symm⟩
    have hr:Reps w Im ρ (shOf H) (qaf (.gen es l)) ((List.range (l.flatMap cell1).length).map f):=⟨by simp[qaf],fun v hv=>by
      obtain⟨j,hj,rfl⟩:=za7.1 hv;exact g5 j _ (zae (zb2.1 hj)),fun j c v hj hv=>by
      obtain⟨d,hd,rfl⟩:=hgetf j v hv;simp only[qaf,zaj,hd,zap,zaa] at hj;subst hj;exact .cl _ _ (g4 j d hd)⟩
    refine⟨g0,rfl,_, ?_,hr⟩;have hl:(Rw.gen es l).len=len:=g1;rw[hl];refine qwp hke hz hr ?_ fun j u hj=> ?_
    ·simp only[qaf,zam];rw[hfl,g1];rcases he with he|he
     ·have:es=size:=he;rw[this]
     ·simp only[Rw.gen.injEq] at he;have:len=0:=by rw[<- g1,he.2];rfl
      subst this;simp
    ·obtain⟨d,hd,rfl⟩:=hgetf j u hj;obtain⟨ad,q1,_,q2⟩:=g3 j d hd;exact⟨ad,q1,q2⟩
  ·cases h
theorem q60{n:Nat}(h:Nat.ble n LIMN=true):(n:Int)<=LIM:=by have:=zb5 h;unfold LIMN at this;unfold LIM;omega
theorem qo6{P:Program}{β:Type}{E:Env}{w0:Base}{bl I0:Nat->Prop}{s:List (Nat×V)}{H H1:Heap}{a:Act}{w:World}{Im:Nat->Prop}{ρ:Nat->Loc}{pos:Nat}{k:V->Upd->Option β}{res:β}(hI:Inv E w0 bl I0 s H1 a w Im ρ)(hf:Free pos s H1){rx ry r:Rw}{st t2 ty e:TypeId}{i:TypeInfo}{z:Value}{u:Upd}{size:Nat}(ht:P.underlying st=some (.slice e))(hi:P.info? e=some i)(hz:i.zero=some z)(hsz:i.size=size)(hzs:z.cells.size=size)(hr:qgv rx ry=some r)(hok:okR rx)(hg:growing rx=true)(hoky:okR ry)(hesz:r.esz=size)(hk:k (.ref pos 0 r.len true size) u=some res)(hu:updH H u=qct H1 pos ⟨r,false⟩){base:Option Addr}{cap:Nat}{olds news:List Value}{ay:Value}(hold: ∀w',(∀A,w'.cell? A=w.cell? A)->(Builtin.firstCells size rx.len (.slice base rx.len cap)).run P w'=.ok olds.toArray w')(ho:Reps w Im ρ (shOf H1) (qaf rx) olds)(hn:Reps w Im ρ (shOf H1) (qaf ry) news)(hs:Src P size t2 ay ry.len news w)(hcap:cap<rx.len+ry.len)(hb:(r.len:Int)*(qr7 P e:Int)<=LIM)(hb2:(r.len:Int)<=LIM):
  Does P E w0 bl I0 s H a w k res (Builtin.append_ #[st,t2] ty #[.slice base rx.len cap,ay]):=by
 subst hsz;obtain⟨g1,g2,g3,g4,g5,g6,g7⟩:=qe6 hr hok hoky;have hby:qr7 P e=i.bytes:=by simp[qr7,hi]
 have hb':r.len*i.bytes<=140737488355328:=by rw[hby, <- Int.natCast_mul] at hb;unfold LIM at hb;omega
 have hrun:=run_append_grow_src (P:=P) w st t2 ty e i z ht hi hz base rx.len cap olds (hold w.drew fun A=>by simp) ay ry.len news hs hcap (by unfold LIM at hb2;rw[g4] at hb2;omega) (growslice_fits hcap (by rw[<- g4];exact hb'));have hge:=grownCap_ge w (rx.len+ry.len) cap e;rw[<- g4] at hrun hge;have hl:(qaf r).length=r.len*i.size:=by rw[qcl g1 g2,hesz]
 have hreps:=ho.append hn;rw[<- g5] at hreps;have hol:(olds++news).length=r.len*i.size:=by rw[hreps.1,hl]
 have hcs:((olds++news).toArray++Builtin.zeroCells z.cells (grownCap w r.len cap e - r.len)).size=grownCap w r.len cap e*i.size:=by rw[zdq,size_zeroCells,hzs,List.size_toArray,hol, <- zdc];congr 1;omega
 have hle:r.len*i.size<=grownCap w r.len cap e*i.size:=zce _ hge;refine qwf hI hf hk hu hrun (cs:=(olds++news).toArray++Builtin.zeroCells z.cells (grownCap w r.len cap e - r.len)) (el:=e) (fr:=(0,0)) rfl rfl rfl rfl g1 g2 rfl hesz hge (by rw[hcs];exact zar _) (by rw[hcs,hl];exact hle) (fun i _ h=>by omega) fun j c hj=> ?_;have hjl:j<(olds++news).length:=by rw[hreps.1];exact(zad.1 hj).1
 have hg:=zae hjl;refine⟨_, ?_,hreps.2.1 _ (zch hjl),hreps.2.2 j c _ hj hg⟩;rw[zcn (by simpa using hjl)];simp
theorem Free.del{p q:Nat}{s:List (Nat×V)}{H:Heap}(h:Free p s H):Free p s (qw9 H q):=by
 refine⟨h.big,by rw[qb4];split<;>simp[h.none],h.sl,fun x o hx=>h.ob x o ?_⟩;rw[qb4] at hx;split at hx
 ·cases hx
 ·exact hx
theorem Fr.ofSet{w w':World}{b o:Nat}{vs:List Value}(h:SetAt w b o vs w'):Fr w (fun c=>c=b) w':=
 ⟨h.os,h.tape,h.output,by rw[h.size];exact zar _,fun c _ hc=>h.block c hc⟩
theorem q4o{P:Program}{β:Type}{E:Env}{w0:Base}{bl I0:Nat->Prop}{s:List (Nat×V)}{H:Heap}{a:Act}{w w':World}{Im:Nat->Prop}{ρ:Nat->Loc}{pos p:Nat}{k:V->Upd->Option β}{res:β}(hI:Inv E w0 bl I0 s H a w Im ρ)(hf:Free pos s H){row r:Rw}(hp:qaj H p=some ⟨row,false⟩){b base lim q off:Nat}(hr:ρ p=some (b,base,lim)){vs:List Value}(hw:SetAt w b (base+off) vs w')(hqo:q<=lim)(hov:off+vs.length<=lim)(hok:okR r)(hg:growing r=true)(hlen:(qaf r).length<=lim - q)(hc: ∀(j:Nat) (c:V),(qaf r)[j]? =some c->∃v:Value,w'.cell? ⟨b,base+q+j,none⟩=some v/\oneC v=true/\VRep w Im ρ (shOf H) c v){ad:Addr}{cap:Nat}{run:Sem Value}(hk:k (.ref pos 0 r.len true r.esz) [(p,none),(pos,some ⟨r,false⟩)]=some res)(hrun:run.run P w=.ok (.slice (some ad) r.len cap) w')(hcap:r.len<=cap)(had:cap≠0->ad=⟨b,base+q,none⟩)(hlim:cap*r.esz<=lim - q):Does P E w0 bl I0 s H a w k res run:=by
 have hlk:=hI.gam.lk p _ b base lim hp hr;obtain⟨hnI,hbl⟩:=hlk.2.2 rfl;have hO:=hI.gam.ob p _ hp;rw[hr] at hO;obtain⟨_,o2,_,o4,_⟩:=hO;have hex: ∀x o y z,qaj (qw9 H p) x=some o->ρ x≠some (b,y,z):=fun x o y z hx hrx=>by
  rw[qb4] at hx;split at hx
  ·cases hx
  ·rename_i hne;have:=(hI.gam.dj x p o _ b y z base lim hx hp hrx hr hne).2;cases this
 have h1:=(hI.drop p).step (Fr.ofSet hw) (fun c hc _=>by subst hc;exact⟨hnI,hbl⟩) fun x o c y z hx hrx hc=>by subst hc;exact hex x o y z hx hrx
 have hpl:=h1.place hf.del (r:=r) (b:=b) (base:=base+q) (lim:=lim - q) (by rw[hw.size];exact o2) hnI hbl hex hok hlen (fun i hi=> ?_) (fun l e=>by subst e;cases hg) fun j c hj=> ?_
 ·refine⟨_,_,_,w',Im,put ρ pos (some (b,base+q,lim - q)),hk,hrun,hpl, ?_⟩;show VRep w' Im _ (shOf (qct (qw9 H p) pos ⟨r,false⟩)) _ _;exact .ref pos 0 r.len true r.esz (shp ⟨r,false⟩) b (base+q) (lim - q) ad cap (by rw[qda,if_pos rfl]) (by simp[put]) rfl hcap (by simp[shp]) (fun _=>by simp[shp]) (fun h=>by simpa using had h) (by simpa using hlim)
 ·obtain⟨c1,c2⟩:=o4 (q+i) (by omega);rw[<- zbq] at c1 c2;refine⟨?_,by rw[hw.fz];exact c2⟩;by_cases hin:base+q+i<base+off\/base+off+vs.length<=base+q+i
  ·rw[hw.cout _ hin];exact c1
  ·have:base+q+i=base+off+(q+i - off):=by omega
   rw[this,hw.cin (q+i - off) _ (zae (by omega))];rfl
 ·obtain⟨v,v1,v2,v3⟩:=hc j c hj;refine⟨v,v1,v2,v3.congr (fun d hd=>hw.block d fun e=>by subst e;exact hnI hd) (fun _ h=>h) fun x hx=> ?_⟩;have:=qcz (p:=x) (r:=r) (fun l e=>by subst e;cases hg) hj;rw[this] at hx;cases hx
theorem q6b{P:Program}{β:Type}{E:Env}{w0:Base}{bl I0:Nat->Prop}{s:List (Nat×V)}{H:Heap}{a:Act}{w:World}{Im:Nat->Prop}{ρ:Nat->Loc}{st t2 ty:TypeId}{x y:V}{ax ay:Value}{pos:Nat}{k:V->Upd->Option β}{res:β}(h:qer P H st pos x y k=some res)(hI:Inv E w0 bl I0 s H a w Im ρ)(hf:Free pos s H)(hx:VRep w Im ρ (shOf H) x ax)(hy:VRep w Im ρ (shOf H) y ay)(hk2:(∃e',P.underlying t2=some (.slice e'))\/∃b,y=.cl (.str b))(hns: ∀b,y=.cl (.str b)->P.underlying t2=some .string):
  Does P E w0 bl I0 s H a w k res (Builtin.append_ #[st,t2] ty #[ax,ay]):=by
 unfold qer at h;split at h
 ·rename_i e hk;split at h
  ·rename_i r0 ry hr0 hry;obtain⟨i,z,z1,z2,z3,z4,z5,z6,z7,z8,z9,z10,z11,z12,z13⟩:=qgt hr0;have ht:=qcd hk;have hsrc: ∀ {rx r:Rw},qgv rx ry=some r->r.esz=qaq P e->okR ry/\growing ry=true/\∃news,Src P (qaq P e) t2 ay ry.len news w/\Reps w Im ρ (shOf H) (qaf ry) news:=fun {rx r} har hes=>by obtain⟨a1,a2⟩:=qla har;exact xbkd hI.gam.ob hry hy z5 hk2 hns (a1.imp (fun e=>by rw[e, <- a2,hes]) id)
   have hnone: ∀news,Src P (qaq P e) t2 ay ry.len news w->ry.len=0->Src P i.size t2 ay 0 [] w:=fun news hs h0=>by have h1:=hs.newsLen;rw[h0,zc2] at h1;obtain rfl:=zcd.1 h1;rw[h0] at hs;rw[z3];exact hs
   split at h
   ·split at h
    ·rename_i r har;replace h:=qaa h;obtain⟨h1,h⟩:=h;replace h:=qaa h;obtain⟨h2,h⟩:=h;replace h:=qaa h;obtain⟨h3,h⟩:=h;have h1:=qag.1 h1;have h2:=q60 h2;have h3:=q60 h3;obtain⟨hoky,hgy,news,hs,hn⟩:=hsrc har h1;obtain⟨g1,g2,g3,g4,g5,g6,g7⟩:=qe6 har z6 hoky;cases hx;rw[z10,za1] at g4;by_cases h0:ry.len=0
     ·refine⟨_,_,_,w,Im,put ρ pos none,h,run_append_nothing w st t2 ty e i ht z1 none 0 0 (zar _) ay (hnone news hs h0),hI.virtual hf g2 (by omega) g1, ?_⟩;rw[show r.len=0 by omega];exact .refV pos (shp ⟨r,false⟩) true _ (by show shOf (qct H pos _) pos=_;rw[qda,if_pos rfl]) (by simp[put]) (by show r.len=0;omega) h1
     ·have hc0:qaf r0=[]:=by rw[zc2] at z11;exact zcd.1 z11
      have:=qo6 (s:=s) (H:=H) (ty:=ty) hI hf ht z1 z2 z3 z4 har z6 z8 hoky h1 h rfl (base:=none) (cap:=0) (olds:=[]) (news:=news) (fun w' _=>run_firstCells_none w' _ _ _ _) (by rw[hc0];exact⟨rfl,by simp,by simp⟩) hn hs (by omega) h2 h3;rw[z10] at this;exact this
    ·cases h
   ·rename_i p o len es;split at h
    ·rename_i row hp;split at h
     ·rename_i rx hwin;split at h
      ·rename_i r har;replace h:=qaa h;obtain⟨h1,h⟩:=h;replace h:=qaa h;obtain⟨h2,h⟩:=h;replace h:=qaa h;obtain⟨h3,h⟩:=h;have h1:=qag.1 h1;have h2:=q60 h2;have h3:=q60 h3;obtain⟨hoky,hgy,news,hs,hn⟩:=hsrc har h1;have hS:shOf H p=some (shp ⟨row,false⟩):=by simp[shOf,hp]
       have hO:=hI.gam.ob p _ hp
       cases hx with
       | refN _ _ _ _ _ _ _ h0 _ _=>rw[hS] at h0;cases h0
       | refV _ s' _ _ q1 q2 q3 q4=>
        rw[hS] at q1;simp only[zaa] at q1;subst q1;rw[q2] at hO;have q3:row.len=0:=q3;obtain⟨x1,x2,x3,x4,x5⟩:=qff hwin hO.2.2 (by omega) (fun _=>by omega);obtain⟨g1,g2,g3,g4,g5,g6,g7⟩:=qe6 har x1 hoky;rw[x4,za1] at g4;by_cases h0:ry.len=0
        ·refine⟨_,_,_,w,Im,put ρ pos none,h,run_append_nothing w st t2 ty e i ht z1 none 0 0 (zar _) ay (hnone news hs h0),(hI.drop p).virtual hf.del g2 (by omega) g1, ?_⟩;rw[show r.len=0 by omega];exact .refV pos (shp ⟨r,false⟩) true _ (by show shOf (qct (qw9 H p) pos _) pos=_;rw[qda,if_pos rfl]) (by simp[put]) (by show r.len=0;omega) h1
        ·have hc0:qaf rx=[]:=by have:=qcl x1 x2;rw[x4,zc2] at this;exact zcd.1 this
         have:=qo6 (s:=s) (H:=H) (ty:=ty) (hI.drop p) hf.del ht z1 z2 z3 z4 har x1 x2 hoky h1 h rfl (base:=none) (cap:=0) (olds:=[]) (news:=news) (fun w' _=>run_firstCells_none w' _ _ _ _) (by rw[hc0];exact⟨rfl,by simp,by simp⟩) (hn.any hgy) hs (by omega) h2 h3;rw[x4] at this;exact this
       | ref _ _ _ _ _ s' b base lim ad cap q1 q2 q3 q4 q5 q6 q7 q8=>
        rw[hS] at q1;simp only[zaa] at q1;subst q1;rw[q2] at hO;have q3:row.esz=es:=q3;have q5:o+len<=row.len:=q5;obtain⟨x1,x2,x3,x4,x5⟩:=qff hwin hO.1 q5 q6;obtain⟨olds,n1,n2⟩:=qnw hwin q5 q6 hO;obtain⟨g1,g2,g3,g4,g5,g6,g7⟩:=qe6 har x1 hoky;have hes:es=qaq P e:=by rw[<- q3, <- x3, <- g3,h1]
        subst hes;have hcl:(o+cap)*qaq P e=o*qaq P e+cap*qaq P e:=zdc ..;have hx1:(qaf rx).length=len*qaq P e:=by rw[qcl x1 x2,x4,x3,q3]
        have hr1:(qaf r).length=r.len*qaq P e:=by rw[qcl g1 g2,h1]
        rw[q3] at n2;have hoa: ∀(j:Nat) (v:Value),olds[j]? =some v->w.cell? (ad.add j)=some v:=fun j v hj=>by
         have hjl:=(zad.1 hj).1;rw[n1.1,hx1] at hjl;have hlp:len≠0:=fun e=>by subst e;simp at hjl
         rw[q7 (by omega),qd6];exact n2 j v hj
        by_cases hroom:len+ry.len<=cap
        ·have hrc:r.len<=cap:=by rw[g4,x4];exact hroom
         have hlimr:r.len*qaq P e<=cap*qaq P e:=zce _ hrc;have hnl:news.length=ry.len*qaq P e:=hs.newsLen;have hsum:r.len*qaq P e=len*qaq P e+ry.len*qaq P e:=by rw[g4,x4,zdc]
         rw[<- h1] at h;by_cases h0:ry.len=0
         ·have hnews:news=[]:=by rw[h0,zc2] at hnl;exact zcd.1 hnl
          subst hnews;have hrl:r.len=len:=by omega
          refine q4o (w':=w) hI hf hp q2 (q:=o*qaq P e) (off:=0) (vs:=[]) ⟨rfl,rfl,rfl,rfl,fun _ _=>rfl,by simp,fun _ _=>rfl,fun _=>rfl⟩ (by omega) (by simp) g1 g2 (by omega) (fun j c hj=> ?_) h (by
           rw[hrl];exact run_append_nothing w st t2 ty e i ht z1 (some ad) len cap q4 ay (hnone _ hs h0)) hrc q7 (by rw[h1];omega)
          have hcy:qaf ry=[]:=zcd.1 (by have:=hn.1;simpa using this.symm);rw[g5,hcy,za9] at hj;have hjl:j<olds.length:=by rw[n1.1];exact(zad.1 hj).1
          have hgj:=zae hjl;exact⟨_,n2 j _ hgj,n1.2.1 _ (zch hjl),n1.2.2 j c _ hj hgj⟩
         ·have hcap0:cap≠0:=by omega
          have had:=q7 hcap0;subst had;have hex: ∀j,j<news.length->(w.cell? ⟨b,base+o*qaq P e+len*qaq P e+j,none⟩).isSome=true/\w.frozen? ⟨b,base+o*qaq P e+len*qaq P e+j,none⟩=false:=fun j hj=>by have:=hO.2.2.2.1 (o*qaq P e+len*qaq P e+j) (by omega);rwa [show base+(o*qaq P e+len*qaq P e+j)=base+o*qaq P e+len*qaq P e+j by omega] at this
          have hrun:=run_append_room_src (P:=P) w st t2 ty e i ht z1 b (base+o*qaq P e) len cap ay ry.len news (by rw[z3];exact hs) hroom (fun j hj=>by rw[z3];exact(hex j hj).1) (fun j hj=>by rw[z3];exact(hex j hj).2);rw[z3, <- x4, <- g4] at hrun;rw[x4] at hrun;have hset:=qn2 (w:=w) (b:=b) news (base+(o*qaq P e+len*qaq P e)) (fun j hj=>by have:=(hex j hj).1;rwa [<- zbq]);rw[<- zbq] at hset;refine q4o hI hf hp q2 (q:=o*qaq P e) (off:=o*qaq P e+len*qaq P e) (vs:=news) (by rw[<- zbq];exact hset) (by omega) (by omega) g1 g2 (by omega) (fun j c hj=> ?_) h hrun hrc (fun _=>rfl) (by rw[h1];omega);rw[g5] at hj;by_cases hjx:j<(qaf rx).length
          ·rw[zax hjx] at hj;have hjl:j<olds.length:=by rw[n1.1];exact hjx
           have hgj:=zae hjl;exact⟨_,by rw[hset.cout _ (.inl (by omega))];exact n2 j _ hgj,n1.2.1 _ (zch hjl),n1.2.2 j c _ hj hgj⟩
          ·rw[zav (by omega)] at hj;have hjl:j - (qaf rx).length<news.length:=by rw[hn.1];exact(zad.1 hj).1
           have hgj:=zae hjl;refine⟨_, ?_,hn.2.1 _ (zch hjl),hn.2.2 _ c _ hj hgj⟩;rw[<- hset.cin _ _ hgj];congr 2;omega
        ·have:=qo6 (s:=s) (H:=H) (ty:=ty) (hI.drop p) hf.del ht z1 z2 z3 z4 har x1 x2 hoky h1 h rfl (base:=some ad) (cap:=cap) (olds:=olds) (news:=news) (fun w' hw'=>by
          refine run_firstCells_some (P:=P) w' _ _ ad _ _ olds (by rw[n1.1,hx1,x4]) fun j v hj=>by rw[hw'];exact hoa j v hj) (n1.any x2) (hn.any hgy) hs (by omega) h2 h3
         rw[x4] at this;exact this
      ·cases h
     ·cases h
    ·cases h
   ·cases h
  ·cases h
 ·cases h
def qdg(H H1:Heap):Prop:= ∀q,(qaj H1 q).map (·.row)=(qaj H q).map (·.row)
theorem qdg.fwd{H H1:Heap}(h:qdg H H1){q:Nat}{o:Obj}(hq:qaj H q=some o): ∃o1,qaj H1 q=some o1/\o1.row=o.row:=by
 have:=h q;rw[hq] at this
 cases h1:qaj H1 q with
 | none=>rw[h1] at this;cases this
 | some o1=>rw[h1] at this;exact⟨o1,rfl,by simpa using this⟩
theorem qdg.bwd{H H1:Heap}(h:qdg H H1){q:Nat}{o:Obj}(hq:qaj H1 q=some o): ∃o1,qaj H q=some o1/\o.row=o1.row:=by
 have:=h q;rw[hq] at this
 cases h1:qaj H q with
 | none=>rw[h1] at this;cases this
 | some o1=>rw[h1] at this;exact⟨o1,rfl,by simpa using this⟩
theorem qdg.sh{H H1:Heap}(h:qdg H H1):shOf H1=shOf H:=by
 funext q;have:=h q;unfold shOf
 cases h1:qaj H1 q with
 | none=>
  rw[h1] at this
  cases h2:qaj H q with
  | none=>rfl
  | some o=>rw[h2] at this;cases this
 | some o1=>
  rw[h1] at this
  cases h2:qaj H q with
  | none=>rw[h2] at this;cases this
  | some o=>
   rw[h2] at this;simp only[zap,zaa] at this ⊢;simp[shp,this]
theorem qdg.free{H H1:Heap}(h:qdg H H1){p:Nat}{s:List (Nat×V)}(hf:Free p s H):Free p s H1:=by
 refine⟨hf.big, ?_,hf.sl,fun q o hq l hl=> ?_⟩
 ·cases h1:qaj H1 p with
  | none=>rfl
  | some o=>obtain⟨o1,ho,_⟩:=h.bwd h1;rw[hf.none] at ho;cases ho
 ·obtain⟨o1,ho,hr⟩:=h.bwd hq;exact hf.ob q o1 ho l (hr▸hl)
theorem qcw{H:Heap}: ∀(l:List Nat) {H1:Heap},qdg H H1->qdg H (updH H1 (lockAll H l))
 | [],H1,h=>h
 | p::r,H1,h=>by
  simp only[lockAll]
  cases hp:qaj H p with
  | none=>exact qcw r h
  | some ob=>
   refine qcw r (H1:=qct H1 p {ob with lock:=true}) fun q=> ?_;rw[qau];split
   ·rename_i e;subst e;simp[hp]
   ·exact h q
theorem qdg.refl(H:Heap):qdg H H:=fun _=>rfl
theorem q29{place:Nat->Option (Nat×Nat)}{cs cs1:Array Value}{q:Nat×Value}{qs:List (Nat×Value)}(h:Instr.fill place cs [q]=some cs1):Instr.fill place cs (q::qs)=Instr.fill place cs1 qs:=by
 obtain⟨i,v⟩:=q;simp only[Instr.fill] at h ⊢
 cases hp:place i with
 | none=>rw[hp] at h;cases h
 | some os=>
  obtain⟨off,size⟩:=os;rw[hp] at h;simp only at h ⊢;split at h
  ·cases h
  ·rename_i hn;rw[if_neg hn];simp only[zaa] at h;rw[h]
theorem qxk{e:Nat}{l:List CV}{i:Nat}{c:CV}(hu: ∀c∈l,(cell1 c).length=e)(hi:i<l.length)(hc:(cell1 c).length=e):
  qaf (.gen e (l.set i c))=qhs (qaf (.gen e l)) (i*e) ((cell1 c).map .cl):=by
 have hle:i*e+e<=l.length*e:=by have:=zce e (zdf hi);rwa [zcu] at this
 apply List.ext_getElem?;intro j;rw[qj8 _ _ _ _ (by simp only[qaf,zam];rw[hc,qbr hu];exact hle)];simp only[qaf,zaj,zam,qu0 j hu hi hc,hc];split<;>rfl
theorem quy{k:IntKind}{l:List Int}{i:Nat}{n:Int}(hi:i<l.length):qaf (.ints k (l.set i n))=qhs (qaf (.ints k l)) (i*1) [.cl (.int k n)]:=by simp only[qaf,qhs,zdr,List.map_set]
theorem qp0{P:Program}{E:Env}{w0:Base}{bl I0:Nat->Prop}{s:List (Nat×V)}{H:Heap}{a:Act}{w:World}{Im0:Nat->Prop}{ρ:Nat->Loc}{e:TypeId}{size:Nat}:
  ∀ {ps:List (Nat×V)} {qs:List (Nat×Value)} {row row':Rw} {u u':Upd} {cs:Array Value} {Im:Nat->Prop},qeo P H e row ps u=some (row',u')->qs.length=ps.length->
  (∀(j:Nat) (p:Nat×V) (q:Nat×Value),ps[j]? =some p->qs[j]? =some q->q.1=p.1/\VRep w Im0 ρ (shOf H) p.2 q.2)->Inv E w0 bl I0 s (updH H u) a w Im ρ->(∀b,Im0 b->Im b)->qdg H (updH H u)->
  okR row->growing row=true->row.esz=size->Reps w Im ρ (shOf H) (qaf row) cs.toList->
  ∃cs' Im',Instr.fill (fun i=>some (i*size,size)) cs qs=some cs'/\Inv E w0 bl I0 s (updH H u') a w Im' ρ/\qdg H (updH H u')/\okR row'/\growing row'=true/\row'.esz=size/\row'.len=row.len/\
   Reps w Im' ρ (shOf H) (qaf row') cs'.toList
 | [],qs,row,row',u,u',cs,Im,h,hl,hr,hI,hm,hsame,hok,hg,hes,hreps=>by
  cases qs with
  | cons=>simp at hl
  | nil=>
   simp only[qeo,zaa,zbb] at h;obtain⟨rfl,rfl⟩:=h;exact⟨cs,Im,rfl,hI,hsame,hok,hg,hes,rfl,hreps⟩
 | (i,v)::ps,qs,row,row',u,u',cs,Im,h,hl,hr,hI,hm,hsame,hok,hg,hes,hreps=>by
  cases qs with
  | nil=>simp at hl
  | cons q qs=>
   obtain⟨hq1,hq2⟩:=hr 0 (i,v) q rfl rfl;obtain⟨q1,q2⟩:=q;simp only at hq1 hq2;subst hq1;have htl: ∀(j:Nat) (p:Nat×V) (q:Nat×Value),ps[j]? =some p->qs[j]? =some q->q.1=p.1/\VRep w Im0 ρ (shOf H) p.2 q.2:=fun j p q hj hq=>hr (j+1) p q (by simpa using hj) (by simpa using hq);simp only[qeo] at h;split at h
   ·rename_i k l;split at h
    ·rename_i kb n;replace h:=qaa h;obtain⟨hc,h⟩:=h;simp only[zab] at hc;obtain⟨hk,hi⟩:=hc;obtain rfl:k=kb:=of_decide_eq_true hk;have hi:q1<l.length:=by simpa [zb9] using hi
     have hs1:size=1:=hes.symm;subst hs1;obtain⟨cs1,f1,f2⟩:=qp8 (w:=w) (Im:=Im) (ρ:=ρ) (S:=shOf H) (place:=fun i=>some (i*1,1)) (ps:=[(q1,.cl (.int k n))]) (qs:=[(q1,q2)]) (l:=qaf (.ints k l)) (l':=qaf (.ints k (l.set q1 n))) (cs:=cs)
      (by
       rw[quy hi];have hc2:Nat.ble (q1*1+1) (qaf (.ints k l)).length=true:=by simp only[qaf,zam];simp;omega
       have hc1:qd7 (.cl (.int k n))=[.cl (.int k n)]:=rfl;simp only[xbel,hc1,okV,hc2];rfl) rfl (fun j p q hj hq=>by
       cases j with
       | zero=>simp at hj hq;subst hj hq;exact⟨rfl,hq2.congr (fun _ _=>rfl) hm fun _ _=>.inr ⟨rfl,rfl⟩⟩
       | succ j=>simp at hj) hreps
     rw[q29 f1];obtain⟨cs',Im',r1,r2,r3,r4,r5,r6,r7,r8⟩:=qp0 (size:=1) h (by simpa using hl) htl hI hm hsame trivial rfl rfl f2;exact⟨cs',Im',r1,r2,r3,r4,r5,r6,by rw[r7];simp[Rw.len],r8⟩
    ·cases h
   ·rename_i es l;split at h
    ·rename_i c hcl;replace h:=qaa h;obtain⟨hc,h⟩:=h;simp only[zab] at hc;obtain⟨hel,hi⟩:=hc;have hi:q1<l.length:=by simpa [zb9] using hi
     have hse:es=size:=hes;subst hse;obtain⟨Im1,j1,j2,j3,j4⟩:=Inv.lockAll (reach H 4 v) (updH H u) Im hI fun q o hq=>hsame.fwd hq;have hob: ∀p o,qaj H p=some o->ORep w Im ρ (shOf H) o.row (ρ p):=fun p o hp=>by obtain⟨o1,h1,h2⟩:=hsame.fwd hp;rw[<- h2, <- hsame.sh];exact hI.gam.ob p o1 h1
     have hcr:=qgy P hob j2 4 e v c q2 hcl (hq2.congr (fun _ _=>rfl) hm fun _ _=>.inr ⟨rfl,rfl⟩) (fun p hp o ho b x y hb=>j3 p hp o ho b x y hb);obtain⟨e1,e2⟩:=qe8 hel;have hle:q1*es+es<=l.length*es:=by have:=zce es (zdf hi);rwa [zcu] at this
     have hu: ∀c∈l,(cell1 c).length=es:=hok;obtain⟨cs1,f1,f2⟩:=qp8 (w:=w) (Im:=Im1) (ρ:=ρ) (S:=shOf H) (place:=fun i=>some (i*es,es)) (ps:=[(q1,.cl c)]) (qs:=[(q1,q2)]) (l:=qaf (.gen es l)) (l':=qaf (.gen es (l.set q1 c))) (cs:=cs)
      (by
       rw[qxk hu hi e2];simp only[xbel,e1];have hc1:Nat.beq (cell1 c).length es=true:=qag.2 e2;have hc2:Nat.ble (q1*es+es) (qaf (.gen es l)).length=true:=by simp only[qaf,zam];rw[qbr hu];simpa using hle
       simp[okV,hc1,hc2]) rfl (fun j p q hj hq=>by
       cases j with
       | zero=>simp at hj hq;subst hj hq;exact⟨rfl,.cl _ _ hcr⟩
       | succ j=>simp at hj) ⟨hreps.1,hreps.2.1,fun j c v hj hv=>(hreps.2.2 j c v hj hv).congr (fun _ _=>rfl) j2 fun _ _=>.inr ⟨rfl,rfl⟩⟩
     rw[q29 f1];obtain⟨cs',Im',r1,r2,r3,r4,r5,r6,r7,r8⟩:=qp0 (size:=es) h (by simpa using hl) htl (by rw[qe5];exact j1) (fun b hb=>j2 b (hm b hb)) (by rw[qe5];exact qcw _ hsame)
      (fun d hd=>by
       rcases List.mem_or_eq_of_mem_set hd with hd|rfl
       ·exact hu d hd
       ·exact e2) rfl rfl f2
     exact⟨cs',Im',r1,r2,r3,r4,r5,r6,by rw[r7];simp[Rw.len],r8⟩
    ·cases h
   ·cases h
theorem qr6{P:Program}{β:Type}{E:Env}{w0:Base}{bl I0:Nat->Prop}{s:List (Nat×V)}{H:Heap}{a:Act}{w:World}{Im:Nat->Prop}{ρ:Nat->Loc}{t:TypeId}{n pos:Nat}{ps:List (Nat×V)}{qs:List (Nat×Value)}{k:V->Upd->Option β}{res:β}(h:qb7 P H t n pos ps k=some res)(hI:Inv E w0 bl I0 s H a w Im ρ)(hf:Free pos s H)(hl:qs.length=ps.length)(hr: ∀(j:Nat) (p:Nat×V) (q:Nat×Value),ps[j]? =some p->qs[j]? =some q->q.1=p.1/\VRep w Im ρ (shOf H) p.2 q.2):Does P E w0 bl I0 s H a w k res (Instr.buildSlice t n qs.toArray):=by
 unfold qb7 at h;split at h
 ·rename_i e hk;replace h:=qaa h;obtain⟨hsz,h⟩:=h;have hsz:n*qaq P e<=16777216:=by simpa using hsz
  split at h
  ·rename_i row hrow;split at h
   ·rename_i r u hb;obtain⟨i,z,z1,z2,z3,z4,z5,z6,z7,z8,z9,z10,z11,z12,z13⟩:=qgt hrow;let cs0:Array Value:=(Array.range (n*qaq P e)).map (z.cells[· % z.cells.size]!);have hcs0:Reps w Im ρ (shOf H) (qaf row) cs0.toList:=by
     have hg: ∀j,j<n*qaq P e->∃v,z.cells[j % qaq P e]? =some v/\cs0[j]? =some v:=fun j hj=>by
      have hm:j % qaq P e<z.cells.size:=by rw[z4];exact zdp _ (zdd z5)
      refine⟨_,zbe hm, ?_⟩;simp[cs0,hj,z4];rw[getElem!_pos z.cells _ hm]
     refine⟨by simp[cs0,z11],fun v hv=> ?_,fun j c v hj hv=> ?_⟩
     ·obtain⟨j,hj⟩:=zb1.1 hv;have hjl:j<n*qaq P e:=by have:=(zad.1 hj).1;simpa [cs0] using this
      obtain⟨v',g1,g2⟩:=hg j hjl;rw[zcq,g2] at hj;simp only[zaa] at hj;subst hj;obtain⟨v2,q1,q2,_⟩:=z13 w Im ρ (shOf H) j _ (zae (by rw[z11];exact hjl));rw[g1] at q1;simp only[zaa] at q1;subst q1;exact q2
     ·have hjl:j<n*qaq P e:=by have:=(zad.1 hj).1;omega
      obtain⟨v',g1,g2⟩:=hg j hjl;rw[zcq,g2] at hv;simp only[zaa] at hv;subst hv;obtain⟨v2,q1,_,q2⟩:=z13 w Im ρ (shOf H) j c hj;rw[g1] at q1;simp only[zaa] at q1;subst q1;exact q2
    obtain⟨cs,Im',f1,f2,f3,f4,f5,f6,f7,f8⟩:=qp0 hb hl hr hI (fun _ h=>h) (.refl H) z6 z8 z9 hcs0;have hcl:cs.size=n*qaq P e:=by have:=f8.1;rw[qcl f4 f5,f6,f7,z10] at this;simpa using this
    have hrun:(Instr.buildSlice t n qs.toArray).run P w=.ok (.slice (some ⟨w.heap.size,0,none⟩) n n) (w.alloc (.cells cs e)):=by
     have hnot: ¬(16777216<n*qaq P e):=by omega
     have hfill:Instr.fill (fun i=>some (i*qaq P e,qaq P e)) cs0 qs=some cs:=f1;by_cases h0:n*qaq P e=0
     ·have hn0:n=0:=by
       rcases Nat.mul_eq_zero.1 h0 with h|h
       ·exact h
       ·exact absurd h z5
      subst hn0;have hc0:cs0= #[]:=by simp[cs0]
      rw[hc0] at hfill;simp[Instr.buildSlice,run_underlying (qcd hk),sizeOf,typeInfo,z1,z3,hfill,newRow,Array.range_zero']
     ·simp only[cs0,z4] at hfill;simp[Instr.buildSlice,run_underlying (qcd hk),sizeOf,typeInfo,zeroValue,z1,z2,z3,z4,hnot,h0,hfill,newRow]
    refine qwf f2 (f3.free hf) (row:=r) (cs:=cs) (el:=e) (fr:=(0,0)) h (by rw[qe5];rfl) hrun rfl rfl rfl rfl f4 f5 (by rw[f7,z10]) f6 (zar _) (by rw[hcl];exact zar _) (by rw[qcl f4 f5,f6,f7,z10,hcl];exact zar _) (fun i _ h=>by omega) fun j c hj=> ?_;rw[f3.sh];have hjl:j<cs.toList.length:=by rw[f8.1];exact(zad.1 hj).1
    have hg:=zae hjl;exact⟨_,by simp,f8.2.1 _ (zch hjl),f8.2.2 j c _ hj hg⟩
   ·cases h
  ·cases h
 ·cases h
theorem qml(f:Nat->Nat)(o:Obj):shp {o with row:=qgu f o.row}=shp o:=by obtain⟨r,l⟩:=o;cases r<;>simp[shp,qgu,Rw.len,Rw.esz,q6u,qc2]
theorem qxj(f:Nat->Nat)(r:Rw):qaf (qgu f r)=(qaf r).map (renV f):=by
 cases r with
 | var l=>
  simp only[qgu,qaf];apply List.ext_getElem?;intro j;rw[qhj,zaj]
 | ints k l=>simp[qgu,qaf,renV]
 | arri n k l=>simp[qgu,qaf,renV]
 | gen e l=>simp[qgu,qaf,zdh,renV]
 | arrg n e l=>simp[qgu,qaf,zdh,renV]
theorem xbjh(f:Nat->Nat){r:Rw}(h:okR r):okR (qgu f r):=by cases r<;>first|exact h|trivial
theorem q6s(f:Nat->Nat)(r:Rw):growing (qgu f r)=growing r:=by cases r<;>rfl
theorem xbqz(f:Nat->Nat)(r:Rw):(qgu f r).len=r.len:=by cases r<;>rfl
theorem ORep.ren{w:World}{Im Im':Nat->Prop}{ρ ρ':Nat->Loc}{S S':Nat->Option Sh}{f:Nat->Nat}{r:Rw}{l:Loc}(h:ORep w Im ρ S r l)(hv: ∀(j:Nat) (c:V) (x:Value),(qaf r)[j]? =some c->VRep w Im ρ S c x->VRep w Im' ρ' S' (renV f c) x):ORep w Im' ρ' S' (qgu f r) l:=by
 cases l with
 | none=>exact⟨by rw[q6s];exact h.1,by rw[xbqz];exact h.2.1,xbjh f h.2.2⟩
 | some l=>
  obtain⟨b,base,lim⟩:=l;obtain⟨h1,h2,h3,h4,h5⟩:=h;refine⟨xbjh f h1,h2,by rw[qxj,zam];exact h3,h4,fun j c hj=> ?_⟩;rw[qxj,zaj] at hj
  cases hd:(qaf r)[j]? with
  | none=>rw[hd] at hj;cases hj
  | some d=>
   rw[hd] at hj;simp only[zap,zaa] at hj;subst hj;obtain⟨v,v1,v2,v3⟩:=h5 j d hd;exact⟨v,v1,v2,hv j d v hd v3⟩
theorem Inv.join{E:Env}{w0:Base}{bl I0 bl' Ic:Nat->Prop}{s:List (Nat×V)}{H H' H2:Heap}{a:Act}{w w':World}{Im Im' Im2:Nat->Prop}{ρ ρ':Nat->Loc}{names:List Nat}{src:Nat->Option Nat}{f:Nat->Nat}(h:Inv E w0 bl I0 s H a w Im ρ)(hF:Fr w bl' w')(hG:Gam w.heap.size bl' Ic w' Im' ρ' H')(hbl: ∀b,bl' b->∃p∈names, ∃o x y,qaj H p=some o/\o.lock=false/\ρ p=some (b,x,y))(hnm: ∀p∈names,(src p).isSome=true/\(qaj H p).isSome=true)(hfree: ∀q j,src q=some j->q∈names\/Free q s H)(hfj: ∀q j,src q=some j->f j=q)(hst: ∀q j o o',src q=some j->qaj H q=some o->qaj H' j=some o'->shp o'=shp o/\ρ' j=ρ q)(h2a: ∀q j,src q=some j->qaj H2 q=(qaj H' j).map fun o=> {o with row:=qgu f o.row})(h2b: ∀q o2,src q=none->qaj H2 q=some o2->∃o,qaj H q=some o/\o2.row=o.row/\(o.lock=true->o2.lock=true))(h2c: ∀q,src q=none->qaj H2 q=none->qaj H q=none)(m1: ∀b,Im b->Im2 b)(m2: ∀b,Im2 b->b<w'.heap.size)(m3: ∀b,Im2 b->I0 b\/bl b\/w0.w.heap.size<=b)(m4: ∀j o b x y,qaj H' j=some o->ρ' j=some (b,x,y)->(o.lock=true->Im2 b)/\(o.lock=false-> ¬Im2 b))(m5: ∀q o b x y,src q=none->qaj H2 q=some o->ρ q=some (b,x,y)->(o.lock=true->Im2 b)/\(o.lock=false-> ¬Im2 b))(m6: ∀(k:Nat) (o:Obj) (j:Nat) (c:V) (x:Value),qaj H' k=some o->(qaf o.row)[j]? =some c->VRep w' Im' ρ' (shOf H') c x->VRep w' Im2 (fun q=>match src q with|some j=>ρ' j|none=>ρ q) (shOf H2) (renV f c) x):
  Inv E w0 bl I0 s H2 a w' Im2 (fun q=>match src q with|some j=>ρ' j|none=>ρ q):=by
 have hblI: ∀b,bl' b-> ¬Im b/\(bl b\/w0.w.heap.size<=b):=fun b hb=>by obtain⟨p,_,o,x,y,h1,h2,h3⟩:=hbl b hb;exact(h.gam.lk p o b x y h1 h3).2.2 h2
 have hk:Keep Im w w':=fun b hi=>hF.block b (h.gam.im b hi) fun hx=>(hblI b hx).1 hi;have hrow2: ∀q o2,src q=none->qaj H2 q=some o2->shOf H2 q=shOf H q:=fun q o2 hq h2=>by obtain⟨o,g1,g2,_⟩:=h2b q o2 hq h2;simp[shOf,h2,g1,shp,g2]
 have hv: ∀v x,(∀q j,src q=some j->q∉names->qdj q v=false)->VRep w Im ρ (shOf H) v x->VRep w' Im2 (fun q=>match src q with|some j=>ρ' j|none=>ρ q) (shOf H2) v x:=fun v x hn hx=>by
  refine hx.congr hk m1 fun q hq=> ?_;show shOf H2 q=none\/(shOf H2 q=shOf H q/\(match src q with|some j=>ρ' j|none=>ρ q)=ρ q)
  cases hsq:src q with
  | none=>
   cases h2:qaj H2 q with
   | none=>left;simp[shOf,h2]
   | some o2=>right;exact⟨hrow2 q o2 hsq h2,rfl⟩
  | some j=>
   by_cases hqn:q∈names
   ·obtain⟨o,ho⟩:=zbn.1 (hnm q hqn).2;have h2:=h2a q j hsq
    cases h3:qaj H' j with
    | none=>left;rw[h3] at h2;simp[shOf,h2]
    | some o'=>
     right;rw[h3] at h2;obtain⟨g1,g2⟩:=hst q j o o' hsq ho h3;refine⟨?_,g2⟩;simp only[shOf,h2,ho,zap];rw[qml,g1]
   ·have:=hn q j hsq hqn;rw[this] at hq;cases hq
 have hfr: ∀q j,src q=some j->q∉names->Free q s H:=fun q j hq hn=>(hfree q j hq).resolve_left hn;have hold: ∀q o b x y,src q=none->qaj H q=some o->ρ q=some (b,x,y)-> ¬bl' b:=fun q o b x y hq ho hr hb=>by
  obtain⟨p,hp,o',x',y',h1,h2,h3⟩:=hbl b hb;have hne:p≠q:=fun e=>by subst e;have:=(hnm p hp).1;rw[hq] at this;cases this
  have:=(h.gam.dj p q o' o b x' y' x y h1 ho h3 hr hne).1;rw[h2] at this;cases this
 refine⟨⟨m2,fun b hb=>m1 b (h.gam.i0 b hb),fun q o hq=> ?_,fun q q' o o' b x y x' y' hq hq' hr hr' hne=> ?_,fun q o b x y hq hr=> ?_,m3⟩,
  ⟨hF.os.trans h.fr.os,hF.tape.trans h.fr.tape,hF.output.trans h.fr.output,zby h.fr.size hF.size,fun b hlt hn=> ?_⟩,
  fun t=>hv _ _ (fun q j hq hn=>(hfr q j hq hn).sl t) (h.sl t),h.nt,h.df.keep hk m1,fun g c hg=>(h.gl g c hg).keep hk m1,fun j o hj hg=> ?_⟩
 ·show ORep _ _ _ _ o.row (match src q with|some j=>ρ' j|none=>ρ q)
  cases hsq:src q with
  | none=>
   obtain⟨o1,g1,g2,_⟩:=h2b q o hsq hq;rw[g2];exact ORep.congr (h.gam.ob q o1 g1) (fun b x y hr=>hF.block b (by have hr:ρ q=some (b,x,y):=hr;have:=h.gam.ob q o1 g1;rw[hr] at this;exact this.lt) (hold q o1 b x y hsq g1 hr))
    fun j c x hj hx=>hv _ _ (fun q' j' hq' hn=>qcz ((hfr q' j' hq' hn).ob q o1 g1) hj) hx
  | some j=>
   have h2:=h2a q j hsq;rw[hq] at h2
   cases h3:qaj H' j with
   | none=>rw[h3] at h2;cases h2
   | some o'=>
    rw[h3] at h2;simp only[zap,zaa] at h2;subst h2;exact ORep.ren (hG.ob j o' h3) fun i c x hi hx=>m6 j o' i c x h3 hi hx
 ·have hcase: ∀q o b x y,qaj H2 q=some o->(match src q with|some j=>ρ' j|none=>ρ q)=some (b,x,y)->
    (src q=none/\∃o1,qaj H q=some o1/\ρ q=some (b,x,y)/\(o1.lock=true->o.lock=true))\/∃j o',src q=some j/\qaj H' j=some o'/\ρ' j=some (b,x,y)/\o.lock=o'.lock:=fun q o b x y hq hr=>by
   cases hsq:src q with
   | none=>
    rw[hsq] at hr;obtain⟨o1,g1,g2,g3⟩:=h2b q o hsq hq;exact .inl ⟨rfl,o1,g1,hr,g3⟩
   | some j=>
    rw[hsq] at hr;have h2:=h2a q j hsq;rw[hq] at h2
    cases h3:qaj H' j with
    | none=>rw[h3] at h2;cases h2
    | some o'=>
     rw[h3] at h2;simp only[zap,zaa] at h2;exact .inr ⟨j,o',rfl,h3,hr,by rw[h2]⟩
  have mix: ∀q o b x y q' o' x' y',qaj H2 q=some o->qaj H2 q'=some o'->(src q=none/\∃o1,qaj H q=some o1/\ρ q=some (b,x,y)/\(o1.lock=true->o.lock=true))->
    (∃j o1,src q'=some j/\qaj H' j=some o1/\ρ' j=some (b,x',y')/\o'.lock=o1.lock)->o.lock=true/\o'.lock=true:=fun q o b x y q' o' x' y' hq hq' ⟨h1,o1,g1,g2,g3⟩ ⟨j,o2,k1,k2,k3,k4⟩=>by
   have hl:o2.lock=true:=by
    cases hl:o2.lock with
    | true=>rfl
    | false=>
     rcases((hG.lk j o2 b x' y' k2 k3).2.2 hl).2 with hb|hb
     ·exact absurd hb (hold q o1 b x y h1 g1 g2)
     ·have:=(h.gam.lk q o1 b x y g1 g2).1;omega
   have hIm:=(m4 j o2 b x' y' k2 k3).1 hl;refine⟨?_,by rw[k4];exact hl⟩
   cases hlo:o.lock with
   | true=>rfl
   | false=>exact absurd hIm ((m5 q o b x y h1 hq g2).2 hlo)
  rcases hcase q o b x y hq hr with c1|c1
  ·rcases hcase q' o' b x' y' hq' hr' with c2|c2
   ·obtain⟨h1,o1,g1,g2,g3⟩:=c1;obtain⟨h1',o1',g1',g2',g3'⟩:=c2;have:=h.gam.dj q q' o1 o1' b x y x' y' g1 g1' g2 g2' hne;exact⟨g3 this.1,g3' this.2⟩
   ·exact mix q o b x y q' o' x' y' hq hq' c1 c2
  ·rcases hcase q' o' b x' y' hq' hr' with c2|c2
   ·exact(mix q' o' b x' y' q o x y hq' hq c2 c1).symm
   ·obtain⟨j,o1,g1,g2,g3,g4⟩:=c1;obtain⟨j',o1',g1',g2',g3',g4'⟩:=c2;have hjj:j≠j':=fun e=>by subst e;exact hne ((hfj q j g1).symm.trans (hfj q' j g1'))
    rw[g4,g4'];exact hG.dj j j' o1 o1' b x y x' y' g2 g2' g3 g3' hjj
 ·have hr:(match src q with|some j=>ρ' j|none=>ρ q)=some (b,x,y):=hr
  cases hsq:src q with
  | none=>
   rw[hsq] at hr;obtain⟨o1,g1,g2,g3⟩:=h2b q o hsq hq;have:=h.gam.lk q o1 b x y g1 hr;obtain⟨k1,k2⟩:=m5 q o b x y hsq hq hr;refine⟨zbg this.1 hF.size,k1,fun hl=>⟨k2 hl, ?_⟩⟩;have:o1.lock=false:=by
    cases hx:o1.lock with
    | false=>rfl
    | true=>rw[g3 hx] at hl;cases hl
   exact((h.gam.lk q o1 b x y g1 hr).2.2 this).2
  | some j=>
   rw[hsq] at hr;have h2:=h2a q j hsq;rw[hq] at h2
   cases h3:qaj H' j with
   | none=>rw[h3] at h2;cases h2
   | some o'=>
    rw[h3] at h2;simp only[zap,zaa] at h2;have hl:o.lock=o'.lock:=by rw[h2]
    have:=hG.lk j o' b x y h3 hr;obtain⟨k1,k2⟩:=m4 j o' b x y h3 hr;rw[hl];refine⟨this.1,k1,fun hlo=>⟨k2 hlo, ?_⟩⟩;rcases(this.2.2 hlo).2 with hb|hb
    ·exact(hblI b hb).2
    ·right;have:=h.fr.size;omega
 ·have hlt':b<w.heap.size:=zbg hlt h.fr.size;rw[hF.block b hlt' fun hx=> ?_]
  ·exact h.fr.block b hlt hn
  ·rcases(hblI b hx).2 with h1|h1
   ·exact hn h1
   ·omega
 ·show w0.an j=some (shp o,match src j with|some i=>ρ' i|none=>ρ j)
  cases hsq:src j with
  | none=>
   obtain⟨o1,g1,g2,_⟩:=h2b j o hsq hg;rw[h.st j o1 hj g1];simp[shp,g2]
  | some i=>
   rcases hfree j i hsq with hn|hn
   ·obtain⟨o1,ho⟩:=zbn.1 (hnm j hn).2;have h2:=h2a j i hsq;rw[hg] at h2
    cases h3:qaj H' i with
    | none=>rw[h3] at h2;cases h2
    | some o'=>
     rw[h3] at h2;simp only[zap,zaa] at h2;subst h2;obtain⟨g1,g2⟩:=hst j i o1 o' hsq ho h3;rw[h.st j o1 hj ho,qml,g1];show some (shp o1,ρ j)=some (shp o1,ρ' i);rw[g2]
   ·have:=hn.big;omega
def qsr:Nat->List (Option Obj)->Heap
 | _,[]=>[]
 | i,none::r=>qsr (i+1) r
 | i,some o::r=>(i,o)::qsr (i+1) r
theorem qez: ∀(l:List Obj) (i q:Nat),qaj (heap0 i l) q=if i<=q then l[q - i]? else none
 | [],i,q=>by simp[heap0,qaj]
 | o::r,i,q=>by
  simp only[heap0,qaj]
  cases hb:Nat.beq i q with
  | true=>obtain rfl:=qag.1 hb;simp
  | false=>
   have hne:=qa7 hb;simp only[cond_false];rw[qez r (i+1) q];by_cases h:i<=q
   ·rw[if_pos (by omega),if_pos h,show q - i=(q - (i+1))+1 by omega];simp
   ·rw[if_neg (by omega),if_neg h]
theorem qf5: ∀(l:List (Option Obj)) (i q:Nat),qaj (qsr i l) q=if i<=q then(l[q - i]?).bind id else none
 | [],i,q=>by simp[qsr,qaj]
 | none::r,i,q=>by
  simp only[qsr];rw[qf5 r (i+1) q];by_cases h:i<=q
  ·by_cases h2:i=q
   ·subst h2;rw[if_neg (by omega),if_pos h];simp
   ·rw[if_pos (by omega),if_pos h,show q - i=(q - (i+1))+1 by omega];simp
  ·rw[if_neg (by omega),if_neg h]
 | some o::r,i,q=>by
  simp only[qsr,qaj]
  cases hb:Nat.beq i q with
  | true=>obtain rfl:=qag.1 hb;simp
  | false=>
   have hne:=qa7 hb;simp only[cond_false];rw[qf5 r (i+1) q];by_cases h:i<=q
   ·rw[if_pos (by omega),if_pos h,show q - i=(q - (i+1))+1 by omega];simp
   ·rw[if_neg (by omega),if_neg h]
def RepL(w:World)(Im:Nat->Prop)(ρ:Nat->Loc)(S:Nat->Option Sh)(l:List V)(vs:List Value):Prop:=
 vs.length=l.length/\∀(j:Nat) (c:V) (v:Value),l[j]? =some c->vs[j]? =some v->VRep w Im ρ S c v
def wrap:List Value->Value
 | [v]=>v
 | l=>.tuple l.toArray
structure Pre (glob:Nat->Option CV) (w:World) (Im:Nat->Prop) (ρ:Nat->Loc) (bl:Nat->Prop) (as:List V) (obs:List Obj) (vs:List Value):Prop where
 small:obs.length<=32
 reps:RepL w Im ρ (shOf (heap0 0 obs)) as vs
 gam:Gam w.heap.size bl Im w Im ρ (heap0 0 obs)
 gl: ∀g c,glob g=some c->CRep w Im (.vp c 0 0) (.pointer (some ⟨g,0,none⟩))
structure Post (w:World) (Im:Nat->Prop) (ρ:Nat->Loc) (bl:Nat->Prop) (obs:List Obj) (w':World) (Im':Nat->Prop) (ρ':Nat->Loc) (objs:List (Option Obj)):Prop where
 fr:Fr w bl w'
 gam:Gam w.heap.size bl Im w' Im' ρ' (qsr 0 objs)
 st: ∀(j:Nat) (o o':Obj),obs[j]? =some o->objs[j]? =some (some o')->shp o'=shp o/\ρ' j=ρ j
def Ends(w:World)(Im:Nat->Prop)(ρ:Nat->Loc)(bl:Nat->Prop)(obs:List Obj)(out:Out)(e:Ending)(w':World):Prop:=
 match out with
 | .ret rs objs=> ∃us Im' ρ',e=.returned (wrap us)/\Post w Im ρ bl obs w' Im' ρ' objs/\RepL w' Im' ρ' (shOf (qsr 0 objs)) rs us
 | .pan c objs=> ∃v Im' ρ',e=.panicked [{v,recovered:=false}]/\Post w Im ρ bl obs w' Im' ρ' objs/\CRep w' Im' c v
 | .yld _ _ _=>False
def Runs(P:Program)(g:FuncId)(vs:Array Value)(w:World)(R:Ending->World->Prop):Prop:=
 ((callFunc g vs).run P w=.ok (.enter g vs) w/\Calls P g vs w R)\/∃v w',(callFunc g vs).run P w=.ok (.value v) w'/\R (.returned v) w'
theorem Runs.mono{P:Program}{g:FuncId}{vs:Array Value}{w:World}{R R':Ending->World->Prop}(h:Runs P g vs w R)(hr: ∀e w',R e w'->R' e w'):Runs P g vs w R':=by
 rcases h with⟨h1,h2⟩|⟨v,w',h1,h2⟩
 ·exact .inl ⟨h1,h2.mono hr⟩
 ·exact .inr ⟨v,w',h1,hr _ _ h2⟩
def Sound(P:Program)(glob:Nat->Option CV)(g:FuncId)(S:FSpec):Prop:=
 ∀(as:List V) (obs:List Obj) (out:Out) (w:World) (Im:Nat->Prop) (ρ:Nat->Loc) (bl:Nat->Prop) (vs:List Value),S as obs=some out->Pre glob w Im ρ bl as obs vs->
  Runs P g vs.toArray w (Ends w Im ρ bl obs out)
def ctr(E:Env)(g:FuncId):FSpec:=fun as obs=>cond (E.pre g as obs) (E.orc g as obs).eval none
theorem xbpc{E:Env}{g:FuncId}{as:List V}{obs:List Obj}{out:Out}(h:E.pre g as obs=true)(h':(E.orc g as obs).eval=some out):ctr E g as obs=some out:=by unfold ctr;rw[h,h'];rfl
theorem qma{p:Nat}: ∀ {l:List Nat},p∈dedup l↔p∈l
 | []=>by simp[dedup]
 | q::r=>by
  simp only[dedup,zas,zdo,qma (l:=r),zao];constructor
  ·rintro(h|⟨h,_⟩)
   ·exact .inl h
   ·exact .inr h
  ·rintro(h|h)
   ·exact .inl h
   ·by_cases e:p=q
    ·exact .inl e
    ·refine .inr ⟨h, ?_⟩;rw[zau];intro hb;exact e (qag.1 hb).symm
theorem qe4: ∀l:List Nat,(dedup l).Nodup
 | []=>by simp[dedup]
 | q::r=>by simp only[dedup,zcz];refine⟨fun h=> ?_,(qe4 r).filter _⟩;have:=(zdo.1 h).2;simp[zbk] at this
theorem qkv{H:Heap}: ∀ {l:List Nat} {obs:List Obj},qhr H l=some obs->obs.length=l.length/\∀(j p:Nat),l[j]? =some p->∃o,qaj H p=some o/\obs[j]? =some o
 | [],obs,h=>by simp[qhr] at h;subst h;simp
 | p::r,obs,h=>by
  simp only[qhr] at h
  cases h1:qaj H p with
  | none=>simp[h1] at h
  | some o=>
   cases h2:qhr H r with
   | none=>simp[h1,h2] at h
   | some l=>
    simp[h1,h2] at h;subst h;obtain⟨g1,g2⟩:=qkv h2;refine⟨by simp[g1],fun j q hj=> ?_⟩
    cases j with
    | zero=>simp at hj;subst hj;exact⟨o,h1,rfl⟩
    | succ j=>simp at hj;simpa using g2 j q hj
theorem qm6: ∀ {l:List Nat} {i p:Nat},p∉l->qbc l i p=63
 | [],i,p,_=>rfl
 | q::r,i,p,h=>by
  simp only[zas,not_or] at h;simp only[qbc]
  cases hb:Nat.beq p q with
  | true=>exact absurd (qag.1 hb) h.1
  | false=>exact qm6 h.2
theorem qqc: ∀ {l:List Nat} {i j p:Nat},l.Nodup->l[j]? =some p->qbc l i p=i+j
 | [],i,j,p,_,h=>by simp at h
 | q::r,i,0,p,_,h=>by simp at h;subst h;simp[qbc,zbk]
 | q::r,i,j+1,p,hn,h=>by
  simp only[za3] at h;simp only[qbc]
  cases hb:Nat.beq p q with
  | true=>
   obtain rfl:=qag.1 hb;exact absurd (zac h) (zcz.1 hn).1
  | false=>
   simp only[cond_false];rw[qqc (zcz.1 hn).2 h];omega
theorem qpv{P:Program}{H:Heap}{br:List Nat}: ∀ {l:List V} {i:Nat} {ts:List TypeId} {as:List V},q7u P H br i ts l=some as->as.length=l.length/\
  ∀(j:Nat) (v a:V),l[j]? =some v->as[j]? =some a->(a=v/\(∀q∈reach H 6 v,q∈qby H br i l))\/∃t c,a=.cl c/\qbp P H 6 t v=some c/\(∀q∈reach H 6 v,q∈qbw H br i l)
 | [],i,ts,as,h=>by simp[q7u] at h;subst h;simp
 | v::r,i,ts,as,h=>by
  simp only[q7u] at h
  cases h1:q7u P H br (i+1) ts.tail r with
  | none=>simp[h1] at h
  | some l=>
   simp only[h1] at h;obtain⟨g1,g2⟩:=qpv h1
   cases hb:br.any (Nat.beq i) with
   | true=>
    simp only[hb,cond_true,zaa] at h;subst h;refine⟨by simp[g1],fun j u a hu ha=> ?_⟩
    cases j with
    | zero=>
     simp at hu ha;subst hu ha;exact .inl ⟨rfl,fun q hq=>by simp[qby,hb,hq]⟩
    | succ j=>
     simp at hu ha;rcases g2 j u a hu ha with⟨e,h⟩|⟨t,c,e,hc,h⟩
     ·exact .inl ⟨e,fun q hq=>by simp only[qby,zak];exact .inr (h q hq)⟩
     ·exact .inr ⟨t,c,e,hc,fun q hq=>by simp only[qbw,zak];exact .inr (h q hq)⟩
   | false=>
    simp only[hb,cond_false] at h
    cases hc:qbp P H 6 (ts.headD 0) v with
    | none=>rw[hc] at h;cases h
    | some c=>
     rw[hc] at h;simp only[zaa] at h;subst h;refine⟨by simp[g1],fun j u a hu ha=> ?_⟩
     cases j with
     | zero=>
      simp at hu ha;subst hu ha;exact .inr ⟨_,c,rfl,hc,fun q hq=>by simp[qbw,hb,hq]⟩
     | succ j=>
      simp at hu ha;rcases g2 j u a hu ha with⟨e,h⟩|⟨t,c,e,hc,h⟩
      ·exact .inl ⟨e,fun q hq=>by simp only[qby,zak];exact .inr (h q hq)⟩
      ·exact .inr ⟨t,c,e,hc,fun q hq=>by simp only[qbw,zak];exact .inr (h q hq)⟩
theorem qxz(names:List Nat)(pos:Nat)(f:Nat->Nat): ∀(objs:List (Option Obj)) (i:Nat) (H1:Heap),(∀a b,i<=a->a<i+objs.length->i<=b->b<i+objs.length->qd5 names pos a=qd5 names pos b->a=b)->
  ∀(q:Nat),(∀(j:Nat) (ob:Option Obj),objs[j]? =some ob->qd5 names pos (i+j)=q->qaj (updH H1 (qfx names pos f i objs)) q=ob.map fun o=> {o with row:=qgu f o.row})/\
   ((∀j,j<objs.length->qd5 names pos (i+j)≠q)->qaj (updH H1 (qfx names pos f i objs)) q=qaj H1 q)
 | [],i,H1,_,q=>⟨fun j ob hj=>by simp at hj,fun _=>rfl⟩
 | ob::r,i,H1,hinj,q=>by
  have ih:=fun H1=>qxz names pos f r (i+1) H1 (fun a b ha hb ha' hb' e=>hinj a b (by omega) (by simp;omega) (by omega) (by simp;omega) e) q;have hstep: ∃H1',updH H1 (qfx names pos f i (ob::r))=updH H1' (qfx names pos f (i+1) r)/\qaj H1' q=if q=qd5 names pos i then ob.map fun o=> {o with row:=qgu f o.row} else qaj H1 q:=by
   simp only[qfx]
   cases ob with
   | none=>exact⟨_,rfl,by rw[qb4];rfl⟩
   | some o=>exact⟨_,rfl,by rw[qau];rfl⟩
  obtain⟨H1',e1,e2⟩:=hstep;rw[e1];obtain⟨i1,i2⟩:=ih H1';constructor
  ·intro j o' hj hq
   cases j with
   | zero=>
    simp at hj;subst hj;rw[i2 fun j hjl e=>by
     have:=hinj i (i+1+j) (by omega) (by simp) (by omega) (by simp;omega) (by rw[e, <- hq];rfl);omega]
    rw[e2,if_pos (by rw[<- hq];rfl)]
   | succ j=>
    simp only[za3] at hj;exact i1 j o' hj (by rw[<- hq];congr 1;omega)
  ·intro hn;rw[i2 fun j hjl=>by
    have:=hn (j+1) (by simp;omega);rwa [show i+(j+1)=i+1+j by omega] at this]
   rw[e2,if_neg fun e=>hn 0 (by simp) (by rw[e];rfl)]
def ImC(Im:Nat->Prop)(H:Heap)(ρ:Nat->Loc)(lent:List Nat)(b:Nat):Prop:=Im b\/∃p∈lent, ∃o x y,qaj H p=some o/\ρ p=some (b,x,y)
def blC(H:Heap)(ρ:Nat->Loc)(names:List Nat)(b:Nat):Prop:= ∃p∈names, ∃o x y,qaj H p=some o/\o.lock=false/\ρ p=some (b,x,y)
def locC(ρ:Nat->Loc)(names:List Nat)(j:Nat):Loc:=match names[j]? with|some p=>ρ p|none=>none
theorem q9b{P:Program}{E:Env}{w0:Base}{bl I0:Nat->Prop}{s:List (Nat×V)}{H:Heap}{a:Act}{w:World}{Im:Nat->Prop}{ρ:Nat->Loc}{names lent:List Nat}{br:List Nat}{ts:List TypeId}{args as:List V}{obs:List Obj}{vs:List Value}(hI:Inv E w0 bl I0 s H a w Im ρ)(hargs:RepL w Im ρ (shOf H) args vs)(hn:names.Nodup)(hdis: ∀p∈names,p∉lent)(hsm:names.length<=28)(has:q7u P H br 0 ts args=some as)(hobs:qhr H names=some obs)(hbr: ∀q,q∈qby H br 0 args->q∈names)(hle: ∀q,q∈qbw H br 0 args->q∈lent):
  Pre E.glob w (ImC Im H ρ lent) (locC ρ names) (blC H ρ names) (renL (qbc names 0) as) (obs.map fun o=> {o with row:=qgu (qbc names 0) o.row}) vs:=by
 obtain⟨ho1,ho2⟩:=qkv hobs;have hat: ∀(j:Nat) (o':Obj),qaj (heap0 0 (obs.map fun o=> {o with row:=qgu (qbc names 0) o.row})) j=some o'->∃p o,names[j]? =some p/\qaj H p=some o/\o'= {o with row:=qgu (qbc names 0) o.row}/\locC ρ names j=ρ p:=fun j o' hj=>by
  rw[qez,if_pos (by omega),zcv,zaj] at hj
  cases hob:obs[j]? with
  | none=>rw[hob] at hj;cases hj
  | some o=>
   rw[hob] at hj;simp only[zap,zaa] at hj;obtain⟨p,hp⟩:=getElem?_of_length (l:=obs) (vs:=names) ho1.symm hob;obtain⟨o2,h1,h2⟩:=ho2 j p hp;rw[hob] at h2;simp only[zaa] at h2;subst h2;exact⟨p,o,hp,h1,hj.symm,by simp[locC,hp]⟩
 have hto: ∀q,shOf (heap0 0 (obs.map fun o=> {o with row:=qgu (qbc names 0) o.row})) (qbc names 0 q)=none\/
   (shOf (heap0 0 (obs.map fun o=> {o with row:=qgu (qbc names 0) o.row})) (qbc names 0 q)=shOf H q/\locC ρ names (qbc names 0 q)=ρ q):=fun q=>by
  by_cases hq:q∈names
  ·obtain⟨j,hj⟩:=zb1.1 hq;have hix:qbc names 0 q=j:=by rw[qqc hn hj];omega
   rw[hix];obtain⟨o,h1,h2⟩:=ho2 j q hj;right;refine⟨?_,by simp[locC,hj]⟩;simp only[shOf,h1,qez,zcc,if_true,zcv,zaj,h2,zap,qml]
  ·left;rw[qm6 hq];simp only[shOf,qez,zcc,if_true,zcv,zaj];rw[zay (by omega)];rfl
 have hm: ∀b,Im b->ImC Im H ρ lent b:=fun b h=>.inl h;refine⟨by simp;omega,⟨?_, ?_⟩,⟨fun b hb=> ?_,fun b hb=>hb,fun j o' hj=> ?_,fun j j' o o' b x y x' y' hj hj' hr hr' hne=> ?_,fun j o b x y hj hr=> ?_,fun b hb=>.inl hb⟩,fun g c hg=>(hI.gl g c hg).keep (fun _ _=>rfl) hm⟩
 ·rw[qc2,(qpv has).1];exact hargs.1
 ·intro j c v hj hv;rw[qhj] at hj
  cases ha:as[j]? with
  | none=>rw[ha] at hj;cases hj
  | some u=>
   rw[ha] at hj;simp only[zap,zaa] at hj;subst hj;obtain⟨g1,g2⟩:=qpv has;obtain⟨v0,hv0⟩:=getElem?_of_length (l:=as) (vs:=args) g1.symm ha;have hx:=hargs.2 j v0 v hv0 hv;rcases g2 j v0 u hv0 ha with⟨rfl,_⟩|⟨t,c,rfl,hc,hq⟩
   ·exact hx.ren (fun _ _=>rfl) hm fun q _=>hto q
   ·exact .cl _ _ (qgy P hI.gam.ob hm 6 t v0 c v hc hx fun p hp o ho b y z hb=>.inr ⟨p,hle p (hq p hp),o,y,z,ho,hb⟩)
 ·rcases hb with hb|⟨p,_,o,x,y,h1,h2⟩
  ·exact hI.gam.im b hb
  ·exact(hI.gam.lk p o b x y h1 h2).1
 ·obtain⟨p,o,h1,h2,rfl,h3⟩:=hat j o' hj;rw[h3];exact ORep.ren (hI.gam.ob p o h2) fun i c x hi hx=>hx.ren (fun _ _=>rfl) hm fun q _=>hto q
 ·obtain⟨p,u,h1,h2,rfl,h3⟩:=hat j o hj;obtain⟨p',u',h1',h2',rfl,h3'⟩:=hat j' o' hj';rw[h3] at hr;rw[h3'] at hr';have hpp:p≠p':=fun e=>by subst e;exact hne ((List.getElem?_inj (zad.1 h1).1 hn).1 (h1.trans h1'.symm))
  exact hI.gam.dj p p' u u' b x y x' y' h2 h2' hr hr' hpp
 ·obtain⟨p,u,h1,h2,rfl,h3⟩:=hat j o hj;rw[h3] at hr;have:=hI.gam.lk p u b x y h2 hr;refine⟨this.1,fun hl=>.inl (this.2.1 hl),fun hl=>⟨fun hb=> ?_,.inl ⟨p,zac h1,u,x,y,h2,hl,hr⟩⟩⟩;rcases hb with hb|⟨p',hp',o',x',y',g1,g2⟩
  ·exact(this.2.2 hl).1 hb
  ·have hne:p≠p':=fun e=>by subst e;exact hdis p (zac h1) hp'
   have:=(hI.gam.dj p p' u o' b x y x' y' h2 g1 hr g2 hne).1;have hl:u.lock=false:=hl;rw[hl] at this;cases this
def q7l(names:List Nat)(pos n q:Nat):Option Nat:=(List.range n).find? fun j=>Nat.beq (qd5 names pos j) q
theorem qgq{names:List Nat}{pos n q j:Nat}(h:q7l names pos n q=some j):j<n/\qd5 names pos j=q:=by have h1:=List.mem_of_find?_eq_some h;have h2:=List.find?_some h;exact⟨zb2.1 h1,qag.1 h2⟩
theorem qyv{names:List Nat}{pos n q:Nat}(h:q7l names pos n q=none): ∀j,j<n->qd5 names pos j≠q:=fun j hj e=>by have:=List.find?_eq_none.1 h j (zb2.2 hj);rw[e,zbk] at this;exact this rfl
theorem xbda{names:List Nat}{pos n:Nat}(hinj: ∀a b,a<n->b<n->qd5 names pos a=qd5 names pos b->a=b){j:Nat}(hj:j<n):q7l names pos n (qd5 names pos j)=some j:=by
 cases h:q7l names pos n (qd5 names pos j) with
 | none=>exact absurd rfl (qyv h j hj)
 | some i=>
  obtain⟨h1,h2⟩:=qgq h;rw[hinj i j h1 hj h2]
theorem xbls{w:World}{Im:Nat->Prop}{c:CV}{v:Value}(h:CRep w Im c v): ∀ {w':World} {Im':Nat->Prop},q9i c=true->CRep w' Im' c v:=by
 induction h with
 | int k n=>intros;exact .int k n
 | bool b=>intros;exact .bool b
 | str s=>intros;exact .str s
 | nili=>intros;exact .nili
 | nilp=>intros;exact .nilp
 | nilfn=>intros;exact .nilfn
 | sli=>intro _ _ hf;cases hf
 | slg=>intro _ _ hf;cases hf
 | agg l vs h1 h2 _ ih=>
  intro w' Im' hf;refine .agg l vs h1 h2 fun j c v hj hv=>ih j c v hj hv ?_;have: ∀(l:List CV),q9i.flatL l=true->∀c∈l,q9i c=true:=fun l=>by
   induction l with
   | nil=>simp
   | cons d r ih=>
    intro h c hc;simp only[q9i.flatL,zab] at h;rcases zas.1 hc with rfl|hc
    ·exact h.1
    ·exact ih h.2 c hc
  exact this l (by simpa [q9i] using hf) c (zac hj)
 | aggi n k l h=>intros;exact .aggi n k l h
 | agga=>intro _ _ hf;cases hf
 | iface t c v _ ih=>intro w' Im' hf;exact .iface t c v (ih (by simpa [q9i] using hf))
 | fn=>intro _ _ hf;cases hf
 | vp=>intro _ _ hf;cases hf
 | any p v h=>intros;exact .any p v h
 | is=>intro _ _ hf;cases hf
theorem qe1{H:Heap}: ∀(l:List Nat) (H1:Heap) (q:Nat),(q∈l->∀o,qaj H q=some o->qaj (updH H1 (lockAll H l)) q=some {o with lock:=true})/\(q∉l->qaj (updH H1 (lockAll H l)) q=qaj H1 q)
 | [],H1,q=>⟨fun h=>by simp at h,fun _=>rfl⟩
 | p::r,H1,q=>by
  refine⟨fun hq o ho=> ?_,fun hq=>qee _ _ hq⟩;by_cases hr:q∈r
  ·simp only[lockAll]
   cases hp:qaj H p with
   | none=>exact(qe1 r H1 q).1 hr o ho
   | some ob=>exact(qe1 r _ q).1 hr o ho
  ·rcases zas.1 hq with rfl|h
   ·simp only[lockAll,ho,updH];rw[qee _ _ hr,qau,if_pos rfl]
   ·exact absurd h hr
theorem q25{E:Env}{w0:Base}{bl I0:Nat->Prop}{s:List (Nat×V)}{H:Heap}{a:Act}{w w':World}{Im Im':Nat->Prop}{ρ ρ':Nat->Loc}{names lent:List Nat}{pos:Nat}{obs:List Obj}{objs:List (Option Obj)}{flat mk:Bool}{f0:Nat->Nat}(hI:Inv E w0 bl I0 s H a w Im ρ)(hn:names.Nodup)(hdis: ∀p∈names,p∉lent)(hsm:names.length<=28)(hobs:qhr H names=some obs)(h63:qaj H 63=none)(hp63: ∀i,pos+1000000*i≠63)(hl1:names.length<=objs.length)(hl2:objs.length<=names.length+cond mk 4 0)(hnew:mk=true->∀i,i<4->Free (pos+1000000*i) s H)(hpost:Post w (ImC Im H ρ lent) (locC ρ names) (blC H ρ names) (obs.map fun o=> {o with row:=qgu f0 o.row}) w' Im' ρ' objs)(hflat:flat=true->∀ob∈objs,xbe3 ob=true):
  ∃Im2 ρ2,Inv E w0 bl I0 s (updH H (cond flat [] (lockAll H lent)++qfx names pos (qc7 names pos objs.length) 0 objs)) a w' Im2 ρ2/\
   ∀v x,VRep w' Im' ρ' (shOf (qsr 0 objs)) v x->(flat=true->xblr v=true)->
    VRep w' Im2 ρ2 (shOf (updH H (cond flat [] (lockAll H lent)++qfx names pos (qc7 names pos objs.length) 0 objs))) (renV (qc7 names pos objs.length) v) x:=by
 obtain⟨ho1,ho2⟩:=qkv hobs;obtain⟨hF,hG,hst⟩:=hpost;have hnmem: ∀(j p:Nat),names[j]? =some p->qd5 names pos j=p:=fun j p hj=>by simp[qd5,hj]
 have hnnew: ∀j,names.length<=j->j<objs.length->qd5 names pos j=pos+1000000*(j - names.length)/\Free (qd5 names pos j) s H/\mk=true:=fun j h1 h2=>by
  have hmk:mk=true:=by
   cases mk with
   | true=>rfl
   | false=>simp at hl2;omega
  subst hmk;have hl2:objs.length<=names.length+4:=hl2;have e:qd5 names pos j=pos+1000000*(j - names.length):=by
   have:Nat.blt j 32=true:=by simp[zb9];omega
   simp[qd5,zay h1,this]
  exact⟨e,by rw[e];exact hnew rfl _ (by omega),rfl⟩
 have hnold: ∀j,j<names.length->qd5 names pos j∈names/\names[j]? =some (qd5 names pos j):=fun j hj=>by have:=zae hj;rw[hnmem j _ this];exact⟨zch hj,this⟩
 have hobj: ∀p∈names, ∃o,qaj H p=some o:=fun p hp=>by obtain⟨j,hj⟩:=zb1.1 hp;obtain⟨o,h,_⟩:=ho2 j p hj;exact⟨o,h⟩
 have hinj: ∀x y,x<objs.length->y<objs.length->qd5 names pos x=qd5 names pos y->x=y:=fun x y hx hy e=>by
  by_cases h1:x<names.length
  ·by_cases h2:y<names.length
   ·have e1:=(hnold x h1).2;have e2:=(hnold y h2).2;rw[e] at e1;exact(List.getElem?_inj h1 hn).1 (e1.trans e2.symm)
   ·obtain⟨o,ho⟩:=hobj _ (hnold x h1).1;have:=(hnnew y (by omega) hy).2.1.none;rw[<- e,ho] at this;cases this
  ·by_cases h2:y<names.length
   ·obtain⟨o,ho⟩:=hobj _ (hnold y h2).1;have:=(hnnew x (by omega) hx).2.1.none;rw[e,ho] at this;cases this
   ·have e1:=(hnnew x (by omega) hx).1;have e2:=(hnnew y (by omega) hy).1;omega
 have hout: ∀j,j<objs.length->qc7 names pos objs.length j=qd5 names pos j:=fun j hj=>by
  have:Nat.blt j objs.length=true:=by simpa [zb9] using hj
  simp[qc7,this]
 have hH': ∀j,qaj (qsr 0 objs) j=(objs[j]?).bind id:=fun j=>by rw[qf5,if_pos (by omega),zcv]
 generalize hH1:updH H (cond flat [] (lockAll H lent))=H1;have hsame:qdg H H1:=by
  rw[<- hH1]
  cases flat with
  | true=>exact .refl H
  | false=>exact qcw _ (.refl H)
 have hH1in:flat=false->∀q∈lent, ∀o,qaj H q=some o->qaj H1 q=some {o with lock:=true}:=fun hf q hq o ho=>by rw[<- hH1,hf];exact(qe1 lent H q).1 hq o ho
 have hH1out:flat=true\/(∀q,q∉lent->qaj H1 q=qaj H q):=by
  cases flat with
  | true=>exact .inl rfl
  | false=>right;intro q hq;rw[<- hH1];exact(qe1 lent H q).2 hq
 have hH1f:flat=true->H1=H:=fun hf=>by rw[<- hH1,hf];rfl
 have hupd:=fun q=>qxz names pos (qc7 names pos objs.length) objs 0 H1 (fun x y _ hx _ hy e=>hinj x y (by omega) (by omega) e) q;rw[qe5,hH1];have h2a: ∀q j,q7l names pos objs.length q=some j->qaj (updH H1 (qfx names pos (qc7 names pos objs.length) 0 objs)) q=(qaj (qsr 0 objs) j).map fun o=> {o with row:=qgu (qc7 names pos objs.length) o.row}:=fun q j hq=>by obtain⟨h1,h2⟩:=qgq hq;have hg:=zae h1;rw[(hupd q).1 j _ hg (by rw[za1];exact h2),hH',hg];rfl
 have h2n: ∀q,q7l names pos objs.length q=none->qaj (updH H1 (qfx names pos (qc7 names pos objs.length) 0 objs)) q=qaj H1 q:=fun q hq=>
  (hupd q).2 fun j hj=>by rw[za1];exact qyv hq j hj
 have hI0: ∀b,Im b->Im' b:=fun b hb=>hG.i0 b (.inl hb);have hsn: ∀p∈names,(q7l names pos objs.length p).isSome=true:=fun p hp=>by obtain⟨j,hj⟩:=zb1.1 hp;have hjl:=(zad.1 hj).1;rw[<- hnmem j p hj,xbda hinj (by omega)];rfl
 have h63':qaj (updH H1 (qfx names pos (qc7 names pos objs.length) 0 objs)) 63=none:=by
  cases hs:q7l names pos objs.length 63 with
  | none=>
   rw[h2n 63 hs]
   cases h1:qaj H1 63 with
   | none=>rfl
   | some o=>obtain⟨o1,h,_⟩:=hsame.bwd h1;rw[h63] at h;cases h
  | some j=>
   obtain⟨h1,h2⟩:=qgq hs;by_cases hj:j<names.length
   ·obtain⟨o,ho⟩:=hobj _ (hnold j hj).1;rw[h2,h63] at ho;cases ho
   ·have:=(hnnew j (by omega) h1).1;rw[h2] at this;exact absurd this.symm (hp63 _)
 have hblC: ∀b,blC H ρ names b->bl b\/w0.w.heap.size<=b:=fun b ⟨p,_,o,x,y,h1,h2,h3⟩=>((hI.gam.lk p o b x y h1 h3).2.2 h2).2;have key: ∀Im2:Nat->Prop,(∀b,Im b->Im2 b)->(∀b,Im2 b->b<w'.heap.size)->(∀b,Im2 b->I0 b\/bl b\/w0.w.heap.size<=b)->
   (∀j o b x y,qaj (qsr 0 objs) j=some o->ρ' j=some (b,x,y)->(o.lock=true->Im2 b)/\(o.lock=false-> ¬Im2 b))->
   (∀q o b x y,q7l names pos objs.length q=none->qaj H1 q=some o->ρ q=some (b,x,y)->(o.lock=true->Im2 b)/\(o.lock=false-> ¬Im2 b))->
   (∀v x,VRep w' Im' ρ' (shOf (qsr 0 objs)) v x->(flat=true->xblr v=true)->VRep w' Im2 (fun q=>match q7l names pos objs.length q with|some j=>ρ' j|none=>ρ q) (shOf (updH H1 (qfx names pos (qc7 names pos objs.length) 0 objs))) (renV (qc7 names pos objs.length) v) x)->
   Inv E w0 bl I0 s (updH H1 (qfx names pos (qc7 names pos objs.length) 0 objs)) a w' Im2 (fun q=>match q7l names pos objs.length q with|some j=>ρ' j|none=>ρ q):=fun Im2 m1 m2 m3 m4 m5 m6=>by
  refine hI.join hF hG (fun b hb=>hb) (fun p hp=>⟨hsn p hp,by obtain⟨o,ho⟩:=hobj p hp;rw[ho];rfl⟩) (fun q j hq=> ?_) (fun q j hq=> ?_) (fun q j o o' hq ho ho'=> ?_) h2a (fun q o2 hq h2=> ?_) (fun q hq h2=> ?_) m1 m2 m3 m4 (fun q o b x y hq h2=>m5 q o b x y hq (by rw[<- h2n q hq];exact h2)) fun k o j c x hk hj hx=>m6 c x hx fun hf=> ?_
  ·obtain⟨h1,h2⟩:=qgq hq;by_cases hj:j<names.length
   ·left;rw[<- h2];exact(hnold j hj).1
   ·right;rw[<- h2];exact(hnnew j (by omega) h1).2.1
  ·obtain⟨h1,h2⟩:=qgq hq;rw[hout j h1,h2]
  ·obtain⟨h1,h2⟩:=qgq hq;by_cases hj:j<names.length
   ·have hnj:=(hnold j hj).2;rw[h2] at hnj;obtain⟨o1,g1,g2⟩:=ho2 j q hnj;rw[ho] at g1;simp only[zaa] at g1;subst g1;rw[hH'] at ho';have hgo:objs[j]? =some (some o'):=by
     cases hoj:objs[j]? with
     | none=>rw[hoj] at ho';cases ho'
     | some x=>rw[hoj] at ho';simp at ho';rw[ho']
    obtain⟨k1,k2⟩:=hst j {o with row:=qgu f0 o.row} o' (by rw[zaj,g2];rfl) hgo;rw[qml] at k1;exact⟨k1,by rw[k2];simp[locC,hnj]⟩
   ·have:=(hnnew j (by omega) h1).2.1.none;rw[h2,ho] at this;cases this
  ·rw[h2n q hq] at h2;obtain⟨o,g1,g2⟩:=hsame.bwd h2;refine⟨o,g1,g2,fun hl=> ?_⟩
   cases hfl:flat with
   | true=>rw[hH1f hfl,g1] at h2;simp only[zaa] at h2;rw[<- h2];exact hl
   | false=>
    by_cases hql:q∈lent
    ·rw[hH1in hfl q hql o g1] at h2;simp only[zaa] at h2;rw[<- h2]
    ·rcases hH1out with hx|hx
     ·rw[hfl] at hx;cases hx
     ·rw[hx q hql,g1] at h2;simp only[zaa] at h2;rw[<- h2];exact hl
  ·rw[h2n q hq] at h2
   cases h1:qaj H q with
   | none=>rfl
   | some o=>obtain⟨o1,g,_⟩:=hsame.fwd h1;rw[h2] at g;cases g
  ·have hfo:=hflat hf (some o) (by
    rw[hH'] at hk
    cases hoj:objs[k]? with
    | none=>rw[hoj] at hk;cases hk
    | some y=>rw[hoj] at hk;simp at hk;subst hk;exact zac hoj)
   obtain⟨row,lock⟩:=o
   cases row with
   | ints kk l=>simp[qaf] at hj;obtain⟨n,_,rfl⟩:=hj;rfl
   | arri n kk l=>simp[qaf] at hj;obtain⟨n,_,rfl⟩:=hj;rfl
   | gen e l=>simp[xbe3] at hfo
   | arrg n e l=>simp[xbe3] at hfo
   | var l=>
    simp only[xbe3,zab] at hfo;exact zai.1 hfo.2 c (zac hj)
 cases hfl:flat with
 | true=>
  have hpv: ∀v x,VRep w' Im' ρ' (shOf (qsr 0 objs)) v x->(flat=true->xblr v=true)->VRep w' Im (fun q=>match q7l names pos objs.length q with|some j=>ρ' j|none=>ρ q) (shOf (updH H1 (qfx names pos (qc7 names pos objs.length) 0 objs))) (renV (qc7 names pos objs.length) v) x:=fun v x hx hv=>by
   have hv:=hv hfl
   cases v with
   | cl c=>exact .cl _ _ (xbls hx.closed hv)
   | _=>cases hv
  refine⟨Im,_,key Im (fun _ h=>h) (fun b hb=>zbg (hI.gam.im b hb) hF.size) hI.gam.imo (fun j o b x y hj hr=> ?_) (fun q o b x y hq h1 hr=> ?_) hpv,fun v x hx hv=>hpv v x hx fun _=>hv rfl⟩
  ·have hfo:=hflat hfl (some o) (by
    rw[hH'] at hj
    cases hoj:objs[j]? with
    | none=>rw[hoj] at hj;cases hj
    | some y=>rw[hoj] at hj;simp at hj;subst hj;exact zac hoj)
   have hlk:=(hG.lk j o b x y hj hr).2.2;have hul:o.lock=false:=by obtain⟨row,lock⟩:=o;simp only[xbe3,zab,zao] at hfo;exact hfo.1
   exact⟨fun h=>(by rw[hul] at h;cases h),fun _ hb=>(hlk hul).1 (hI0 b hb)⟩
  ·rw[hH1f hfl] at h1;have:=hI.gam.lk q o b x y h1 hr;exact⟨this.2.1,fun hl=>(this.2.2 hl).1⟩
 | false=>
  have hpv: ∀v x,VRep w' Im' ρ' (shOf (qsr 0 objs)) v x->(flat=true->xblr v=true)->VRep w' Im' (fun q=>match q7l names pos objs.length q with|some j=>ρ' j|none=>ρ q) (shOf (updH H1 (qfx names pos (qc7 names pos objs.length) 0 objs))) (renV (qc7 names pos objs.length) v) x:=fun v x hx _=>by
   refine hx.ren (fun _ _=>rfl) (fun _ h=>h) fun q _=> ?_;by_cases hq:q<objs.length
   ·have hsq:=xbda hinj hq;rw[hout q hq];right;refine⟨?_,by simp[hsq]⟩;simp only[shOf,h2a _ q hsq,Option.map_map];congr 1;funext o;exact qml _ o
   ·left;have:qc7 names pos objs.length q=63:=by
     have:Nat.blt q objs.length=false:=by rw[zau];intro h;simp[zb9] at h;omega
     simp[qc7,this]
    rw[this];simp[shOf,h63']
  refine⟨Im',_,key Im' hI0 hG.im (fun b hb=> ?_) (fun j o b x y hj hr=> ?_) (fun q o b x y hq h1 hr=> ?_) hpv,fun v x hx _=>hpv v x hx fun h=>by rw[hfl] at h;cases h⟩
  ·rcases hG.imo b hb with(hb|⟨p,_,o,x,y,h1,h2⟩)|hb|hb
   ·exact hI.gam.imo b hb
   ·have:=hI.gam.lk p o b x y h1 h2
    cases hl:o.lock with
    | true=>exact hI.gam.imo b (this.2.1 hl)
    | false=>exact .inr (this.2.2 hl).2
   ·exact .inr (hblC b hb)
   ·right;right;have:=hI.fr.size;omega
  ·have:=hG.lk j o b x y hj hr;exact⟨this.2.1,fun hl=>(this.2.2 hl).1⟩
  ·obtain⟨o1,g1,g2⟩:=hsame.bwd h1;have hlk:=hI.gam.lk q o1 b x y g1 hr;by_cases hql:q∈lent
   ·rw[hH1in hfl q hql o1 g1] at h1;simp only[zaa] at h1;subst h1;exact⟨fun _=>hG.i0 b (.inr ⟨q,hql,o1,x,y,g1,hr⟩),fun h=>(by cases h)⟩
   ·rcases hH1out with hx|hx
    ·rw[hfl] at hx;cases hx
    ·rw[hx q hql,g1] at h1;simp only[zaa] at h1;subst h1;refine⟨fun hl=>hI0 b (hlk.2.1 hl),fun hl hb=> ?_⟩;rcases hG.imo b hb with(hb|⟨p,hp,o,x',y',h1,h2⟩)|⟨p,hp,o,x',y',h1,h2,h3⟩|hb
     ·exact(hlk.2.2 hl).1 hb
     ·have hne:p≠q:=fun e=>by subst e;exact hql hp
      have:=(hI.gam.dj p q o o1 b x' y' x y h1 g1 h2 hr hne).2;rw[hl] at this;cases this
     ·have hne:p≠q:=fun e=>by subst e;have:=hsn p hp;rw[hq] at this;cases this
      have:=(hI.gam.dj p q o o1 b x' y' x y h1 g1 h3 hr hne).2;rw[hl] at this;cases this
     ·omega
theorem xbot{w:World}{Im:Nat->Prop}{ρ:Nat->Loc}{S:Nat->Option Sh}{l:List V}{us:List Value}(h:RepL w Im ρ S l us):VRep w Im ρ S (xbyl l) (wrap us):=by
 obtain⟨h1,h2⟩:=h;unfold xbyl;split
 ·rename_i v
  cases us with
  | nil=>simp at h1
  | cons u r=>
   cases r with
   | cons=>simp at h1
   | nil=>exact h2 0 v u rfl rfl
 ·rename_i hn;have hw:wrap us=.tuple us.toArray:=by
   cases us with
   | nil=>rfl
   | cons u r=>
    cases r with
    | cons=>rfl
    | nil=>
     cases l with
     | nil=>simp at h1
     | cons v q=>
      cases q with
      | nil=>exact absurd rfl (hn v)
      | cons=>simp at h1
  rw[hw];exact .tup l us h1 h2
theorem xbey{P:Program}{β:Type}{E:Env}{w0:Base}{bl I0:Nat->Prop}{s:List (Nat×V)}{H:Heap}{a:Act}{w:World}{Im:Nat->Prop}{ρ:Nat->Loc}{g:FuncId}{mk:Bool}{pos:Nat}{args:List V}{vs:List Value}{kv:V->Upd->Option β}{kp:CV->Upd->Option β}{r:β}(hE: ∀g,Sound P E.glob g (ctr E g))(h:q24 P E H g mk pos args kv kp=some r)(hI:Inv E w0 bl I0 s H a w Im ρ)(hargs:RepL w Im ρ (shOf H) args vs)(hp63: ∀i,pos+1000000*i≠63)(hnew:mk=true->∀i,i<4->Free (pos+1000000*i) s H):
  Runs P g vs.toArray w fun e w'=>(∃v u x Im' ρ',e=.returned x/\kv v u=some r/\Inv E w0 bl I0 s (updH H u) a w' Im' ρ'/\VRep w' Im' ρ' (shOf (updH H u)) v x)\/
   ∃c u x Im' ρ',e=.panicked [{v:=x,recovered:=false}]/\kp c u=some r/\Inv E w0 bl I0 s (updH H u) a w' Im' ρ'/\CRep w' Im' c x:=by
 unfold q24 at h;split at h
 ·cases h
 ·rename_i fn hfn;replace h:=qaw h;obtain⟨hc,h⟩:=h;simp only[zcm] at hc;obtain⟨hd,hsm⟩:=hc;have hsm:(dedup (qby H (E.byref g) 0 args)).length<=28:=by
   have: ¬(28<=(dedup (qby H (E.byref g) 0 args)).length):=fun h=>by rw[zcr h] at hsm;cases hsm
   omega
  have hdis: ∀p∈dedup (qby H (E.byref g) 0 args),p∉qbw H (E.byref g) 0 args:=fun p hp hq=>by have h1:=List.any_eq_false.1 hd p hp;exact h1 (zda.2 ⟨p,hq,zbk p⟩)
  split at h
  ·rename_i as obs h63 has hobs;replace h:=qaa h;obtain⟨hpr,h⟩:=h;have hpre:=q9b hI hargs (qe4 _) hdis hsm has hobs (fun q hq=>qma.2 hq) (fun q hq=>hq);obtain⟨out,horc,h,_⟩:=qjb h
   cases out with
   | ret rs objs=>
    replace h:=qaa h;obtain⟨hlen,h⟩:=h;simp only[zab] at hlen;have hl1:=zb5 hlen.1;have hl2:=zb5 hlen.2;refine(hE g _ _ _ w _ _ _ vs (xbpc hpr horc) hpre).mono fun e w' he=> ?_;obtain⟨us,Im',ρ',e1,hpost,hrep⟩:=he;left;obtain⟨Im2,ρ2,hI2,hv2⟩:=q25 (f0:=qbc (dedup (qby H (E.byref g) 0 args)) 0) (flat:=rs.all xblr&&objs.all xbe3) hI (qe4 _) hdis hsm hobs h63 hp63 hl1 hl2 hnew hpost fun hf ob hob=>by simp only[zab] at hf;exact zai.1 hf.2 ob hob
    refine⟨_,_,_,Im2,ρ2,e1,h,hI2,xbot ⟨by rw[qc2];exact hrep.1,fun j c v hj hv=> ?_⟩⟩;rw[qhj] at hj
    cases hu:rs[j]? with
    | none=>rw[hu] at hj;cases hj
    | some u=>
     rw[hu] at hj;simp only[zap,zaa] at hj;subst hj;exact hv2 u v (hrep.2 j u v hu hv) fun hf=>by simp only[zab] at hf;exact zai.1 hf.1 u (zac hu)
   | pan c objs=>
    replace h:=qaa h;obtain⟨hlen,h⟩:=h;have hlen:=qag.1 hlen;refine(hE g _ _ _ w _ _ _ vs (xbpc hpr horc) hpre).mono fun e w' he=> ?_;obtain⟨x,Im',ρ',e1,hpost,hrep⟩:=he;right;obtain⟨Im2,ρ2,hI2,hv2⟩:=q25 (f0:=qbc (dedup (qby H (E.byref g) 0 args)) 0) (mk:=mk) (flat:=q9i c&&objs.all xbe3) hI (qe4 _) hdis hsm hobs h63 hp63 (by omega) (by omega) hnew hpost fun hf ob hob=>by simp only[zab] at hf;exact zai.1 hf.2 ob hob
    exact⟨_,_,x,Im2,ρ2,e1,h,hI2,(hv2 (.cl c) x (.cl _ _ hrep) fun hf=>by
     simp only[zab] at hf;exact hf.1).closed⟩
   | yld x f t=>cases h
  ·cases h
theorem Pure.does{P:Program}{β:Type}{E:Env}{w0:Base}{bl I0:Nat->Prop}{s:List (Nat×V)}{H:Heap}{a:Act}{w:World}{Im:Nat->Prop}{ρ:Nat->Loc}{k:V->Upd->Option β}{r:β}{run:Sem Value}(h:Pure P w Im ρ (shOf H) (fun v=>k v []) r run)(hI:Inv E w0 bl I0 s H a w Im ρ):Does P E w0 bl I0 s H a w k r run:=by obtain⟨v,val,h1,h2,h3⟩:=h;exact⟨v,[],val,w,Im,ρ,h1,h3,hI,h2⟩
theorem RepL.append{w:World}{Im:Nat->Prop}{ρ:Nat->Loc}{S:Nat->Option Sh}{C D:List V}{us vs:List Value}(h:RepL w Im ρ S C us)(g:RepL w Im ρ S D vs):RepL w Im ρ S (C++D) (us++vs):=by
 obtain⟨h1,h3⟩:=h;obtain⟨g1,g3⟩:=g;refine⟨by simp[h1,g1],fun j c v hj hv=> ?_⟩;by_cases hl:j<C.length
 ·rw[zax hl] at hj;rw[zax (by omega)] at hv;exact h3 j c v hj hv
 ·rw[zav (by omega)] at hj;rw[zav (by omega),h1] at hv;exact g3 _ c v hj hv
theorem qv0{P:Program}{β:Type}{E:Env}{w0:Base}{bl I0:Nat->Prop}{s:List (Nat×V)}{H:Heap}{a:Act}{w:World}{Im:Nat->Prop}{ρ:Nat->Loc}{o:Oper}{k:V->Upd->Option β}{kp:CV->Upd->Option β}{r:β}{next:Act->World->Prop}{Q:Exit->Act->World->Prop}(hE: ∀g,Sound P E.glob g (ctr E g))(h:opK P E s H o k kp=some r)(hI:Inv E w0 bl I0 s H a w Im ρ)(hf: ∀p∈makes E o,Free p s H)(hk: ∀v u x w' Im' ρ',k v u=some r->Inv E w0 bl I0 s (updH H u) a w' Im' ρ'->VRep w' Im' ρ' (shOf (updH H u)) v x->next (a.put o.dst x) w')(hp: ∀c u x w' Im' ρ',kp c u=some r->Inv E w0 bl I0 s (updH H u) a w' Im' ρ'->CRep w' Im' c x->Q (.panic [{v:=x,recovered:=false}]) a w'):o.wp P a w next Q:=by
 have hv: ∀x:Operand,VRep w Im ρ (shOf H) (opd E s x) (a.eval x):=hI.opd;have fin: ∀run:Sem Value,Does P E w0 bl I0 s H a w k r run->(execOp a.eval o).run P w=(do pure (.value (<- run)):Sem Next).run P w->o.wp P a w next Q:=fun run ⟨v,u,val,w',Im',ρ',h1,h2,h3,h4⟩ he=>by refine qf3 (w':=w') (v:=val) ?_ (hk v u val w' Im' ρ' h1 h3 h4);rw[he];simp[h2]
 have hob:=hI.gam.ob;have hparts: ∀(ps:Array (Nat×Operand)) (j:Nat) (p:Nat×V) (q:Nat×Value),(ps.toList.map fun p=>(p.1,opd E s p.2))[j]? =some p->(ps.toList.map fun p=>(p.1,a.eval p.2))[j]? =some q->q.1=p.1/\VRep w Im ρ (shOf H) p.2 q.2:=fun ps j p q hj hq=>by
  rw[zaj] at hj hq
  cases hd:ps.toList[j]? with
  | none=>rw[hd] at hj;cases hj
  | some x=>
   rw[hd] at hj hq;simp only[zap,zaa] at hj hq;subst hj hq;exact⟨rfl,hv _⟩
 have hlist: ∀(ps:Array Operand),RepL w Im ρ (shOf H) (ps.toList.map (opd E s)) (ps.toList.map a.eval):=fun ps=>⟨by simp,fun j p q hj hq=>by
  rw[zaj] at hj hq
  cases hd:ps.toList[j]? with
  | none=>rw[hd] at hj;cases hj
  | some x=>
   rw[hd] at hj hq;simp only[zap,zaa] at hj hq;subst hj hq;exact hv _⟩
 cases hop:o.op with
 | move x=>
  simp only[opK,hop] at h;exact qf3 (by simp[execOp,hop]) (hk _ [] _ w Im ρ h hI (hv x))
 | assign x=>
  simp only[opK,hop] at h;split at h
  ·rename_i c hc;split at h
   ·rename_i e hke;split at h
    ·rename_i r0 hr0;obtain⟨i,z,z1,z2,z3,z4,z5,z6,z7,z8,z9,z10,z11,z12,z13⟩:=qgt hr0;have hx:=hv (.const c);rw[hc] at hx;have hval:a.eval (.const c)=.slice none 0 0:=by cases hx;rfl
     refine qf3 (w':=w) (v:=.slice none 0 0) (by simp[execOp,hop,hval]) (hk _ _ _ w Im (put ρ (qmr o) none) h (hI.virtual (hf _ (by simp[makes,hop])) z8 z10 z6) ?_);exact .refV (qmr o) (shp ⟨r0,false⟩) true _ (by show shOf (qct H _ _) _=_;rw[qda,if_pos rfl]) (by simp[put]) (by show r0.len=0;exact z10) z9
    ·cases h
   ·cases h
  ·refine qf3 (w':=w) ?_ (hk _ [] _ w Im ρ h hI (hv _));simp[execOp,hop]
 | pick c x y=>
  simp only[opK,hop] at h;split at h
  ·rename_i t hc;have hcv:=hv c;rw[hc] at hcv;have hcv:=hcv.bool
   cases t with
   | true=>exact qf3 (v:=a.eval x) (by simp[execOp,hop,hcv,asBool]) (hk _ [] _ w Im ρ h hI (hv x))
   | false=>exact qf3 (v:=a.eval y) (by simp[execOp,hop,hcv,asBool]) (hk _ [] _ w Im ρ h hI (hv y))
  ·cases h
 | alloc t=>
  simp only[opK,hop] at h;split at h
  ·rename_i z hz;obtain⟨val,hzv,hzr⟩:=qr3 (P:=P) (w:=w) (Im:=Im) (ρ:=ρ) (S:=shOf H) hz;refine fin _ (qsx h hI (hf _ (by simp[makes,hop])) hzv (xbei hz _)) ?_;simp[execOp,hop,Instr.alloc,hzr]
  ·cases h
 | box t x=>
  simp only[opK,hop] at h;exact fin _ (qsx h hI (hf _ (by simp[makes,hop])) (hv x) (xbm1 (hf _ (by simp[makes,hop])) x)) (by simp only[execOp,hop,Instr.box])
 | load t x=>
  simp only[opK,hop] at h;exact fin _ (Pure.does (qsu hob h (hv x)) hI) (by simp only[execOp,hop])
 | store t x y=>
  simp only[opK,hop] at h;obtain⟨u,w',Im',h1,h2,h3⟩:=q2d h hI (hv x) (hv y);exact xbd9 (w':=w') (by simp[execOp,hop,h2]) (hk .undef u _ w' Im' ρ h1 h3 (.undef _))
 | nilCheck x=>
  simp only[opK,hop] at h;obtain⟨h1,h2⟩:=qyc h (hv x);refine qf3 (w':=w) (v:=a.eval x) ?_ (hk _ [] _ w Im ρ h1 hI (hv x));rcases h2 with⟨ad,h2⟩|⟨f,p,q,h2⟩
  ·simp[execOp,hop,h2]
  ·simp[execOp,hop,h2]
 | binOp op t x y yt=>
  simp only[opK,hop] at h;exact fin _ (Pure.does (q8x h (hv x) (hv y) x y) hI) (by simp only[execOp,hop])
 | unOp op t x=>
  simp only[opK,hop] at h;exact fin _ (Pure.does (xbhg h (hv x)) hI) (by simp only[execOp,hop])
 | convert src dst x=>
  simp only[opK,hop] at h;split at h
  ·rename_i e b hd hx;replace h:=qaa h;obtain⟨h1,h⟩:=h;split at h
   ·rename_i he;replace h:=qaa h;obtain⟨h2,h⟩:=h;have hxv:=hv x;rw[hx] at hxv;refine fin _ (q87 h hI (hf _ (by simp[makes,hop])) h1 hd he) ?_;simp only[execOp,hop,hxv.str]
   ·cases h
  ·rename_i b hd hx;have hxv:=hv x;rw[hx] at hxv;exact fin _ (Pure.does (q4k h hxv) hI) (by simp only[execOp,hop])
  ·rename_i hd _;exact fin _ (Pure.does (xbb6 hob hd h (hv x)) hI) (by simp only[execOp,hop])
  ·exact fin _ (Pure.does (q4k h (hv x)) hI) (by simp only[execOp,hop])
 | makeInterface t x=>
  simp only[opK,hop] at h;replace h:=qaa h;obtain⟨h1,h⟩:=h;split at h
  ·cases h
  ·cases h
  ·obtain⟨g1,g2⟩:=xbb3 (w:=w) h1 (hv x);exact fin _ (Pure.does ⟨_,_,h,g1,g2⟩ hI) (by simp only[execOp,hop])
 | makeFunc g x y=>
  simp only[opK,hop] at h;have hr:=xbso (f:=g) (hlist x).1 (hlist y).1 (hlist x).2 (hlist y).2;refine qf3 (w':=w) ?_ (hk _ [] _ w Im ρ h hI hr);have e: ∀z:Array Operand,(z.toList.map a.eval).toArray=z.map a.eval:=fun z=>by apply zcw;simp
  rw[e,e];simp[execOp,hop,Instr.makeFunc]
 | makeSlice t n c=>
  simp only[opK,hop] at h;exact fin _ (qvr h hI (hf _ (by simp[makes,hop])) (hv n) (hv c)) (by simp only[execOp,hop])
 | slice t x lo hi mx=>
  simp only[opK,hop] at h;split at h
  ·rename_i l hh hmx hl hhi;have hm:mx.map a.eval=none:=qm9 hv hmx;refine fin _ (Pure.does (xbb5 hob h (hv x) (qm9 hv hl) (qm9 hv hhi)) hI) ?_;simp only[execOp,hop,hm]
  ·rename_i m hh hmx hl hhi;have hlo:lo.map a.eval=none:=qm9 hv hl;refine fin _ (Pure.does (q7e h (hv x) (qm9 hv hhi) (qm9 hv hmx)) hI) ?_;simp only[execOp,hop,hlo]
  ·cases h
 | fieldAddr t x f=>
  simp only[opK,hop] at h;exact fin _ (Pure.does (qwc h (hv x)) hI) (by simp only[execOp,hop])
 | field t x f=>
  simp only[opK,hop] at h;exact fin _ (Pure.does (xbb2 h (hv x)) hI) (by simp only[execOp,hop])
 | indexAddr t x i=>
  simp only[opK,hop] at h;exact fin _ (Pure.does (qwd h (hv x) (hv i)) hI) (by simp only[execOp,hop])
 | index t x i=>
  simp only[opK,hop] at h;exact fin _ (Pure.does (xbb4 h (hv x) (hv i)) hI) (by simp only[execOp,hop])
 | build t ps=>
  simp only[opK,hop] at h;exact fin _ (Pure.does (xbb1 (qs:=ps.toList.map fun p=>(p.1,a.eval p.2)) h (by simp) (hparts ps)) hI) (by
   simp only[execOp,hop];congr 4;apply zcw;simp)
 | buildSlice t n ps=>
  simp only[opK,hop,xbiv] at h;exact fin _ (qr6 (qs:=ps.toList.map fun p=>(p.1,a.eval p.2)) h hI (hf _ (by simp[makes,hop])) (by simp) (hparts ps)) (by
   simp only[execOp,hop];congr 4;apply zcw;simp)
 | extract x i=>
  simp only[opK,hop] at h;exact fin _ (Pure.does (q1m h (hv x)) hI) (by simp only[execOp,hop])
 | typeAssert x xt asserted ok=>
  simp only[opK,hop] at h;exact fin _ (Pure.does (q7d (xt:=xt) h (hv x)) hI) (by simp only[execOp,hop])
 | panic x=>
  simp only[opK,hop] at h;split at h
  ·rename_i t c hc;obtain⟨Im',j1,j2,j3,j4⟩:=Inv.lockAll (reach H 4 (opd E s x)) H Im hI fun q o hq=>⟨o,hq,rfl⟩;have hcr:=qgy P hob j2 4 0 _ _ (a.eval x) hc (hv x) j3;have hex: ∃y,a.eval x=.iface t y:=by generalize a.eval x=ev at hcr;cases hcr;exact⟨_,rfl⟩
   obtain⟨y,hy⟩:=hex;have hrun:(execOp a.eval o).run P w=.halt (.panic (a.eval x)) w:=by rw[hy];simp[execOp,hop,hy,Instr.panic,goPanic]
   unfold Oper.wp;rw[hrun];exact hp _ _ _ w Im' ρ h j1 hcr
  ·cases h
 | call c=>
  simp only[opK,hop] at h;split at h
  ·rename_i hcal;refine fin _ (Pure.does (xbm8 (ts:=c.argTypes) (ty:=o.type) h (hlist c.args).1 (hlist c.args).2) hI) ?_;have e:(c.args.toList.map a.eval).toArray=c.args.map a.eval:=by apply zcw;simp
   simp[execOp,hop,resolve,hcal,invoke,builtin,e]
  ·rename_i hcal;refine fin _ (Pure.does (xbm7 (ts:=c.argTypes) (ty:=o.type) h (hlist c.args).1 (hlist c.args).2) hI) ?_;have e:(c.args.toList.map a.eval).toArray=c.args.map a.eval:=by apply zcw;simp
   simp[execOp,hop,resolve,hcal,invoke,builtin,e]
  ·rename_i hcal;refine fin _ (Pure.does (xbna (ts:=c.argTypes) (ty:=o.type) h (hlist c.args).1 (hlist c.args).2) hI) ?_;have e:(c.args.toList.map a.eval).toArray=c.args.map a.eval:=by apply zcw;simp
   simp[execOp,hop,resolve,hcal,invoke,builtin,e]
  ·rename_i hcal;refine fin _ (Pure.does (xbm9 (ts:=c.argTypes) (ty:=o.type) h (hlist c.args).1 (hlist c.args).2) hI) ?_;have e:(c.args.toList.map a.eval).toArray=c.args.map a.eval:=by apply zcw;simp
   simp[execOp,hop,resolve,hcal,invoke,builtin,e]
  ·rename_i hcal;split at h
   ·rename_i t t2 x y hat hae;have hl:=hlist c.args;rw[hae] at hl;obtain⟨ax,ay,hav⟩: ∃ax ay,c.args.toList.map a.eval=[ax,ay]:=by
     have:=hl.1
     cases hm:c.args.toList.map a.eval with
     | nil=>rw[hm] at this;simp at this
     | cons u r=>
      cases r with
      | nil=>rw[hm] at this;simp at this
      | cons u2 r2=>
       cases r2 with
       | nil=>exact⟨u,u2,rfl⟩
       | cons=>rw[hm] at this;simp at this
    rw[hav] at hl;have hx:=hl.2 0 x ax rfl rfl;have hy:=hl.2 1 y ay rfl rfl;have e1:c.argTypes= #[t,t2]:=by apply zcw;simpa using hat
    have e2:c.args.map a.eval= #[ax,ay]:=by apply zcw;simpa using hav
    have go:qer P H t (qmr o) x y k=some r->((∃e',P.underlying t2=some (.slice e'))\/∃b,y=.cl (.str b))->(∀b,y=.cl (.str b)->P.underlying t2=some .string)->o.wp P a w next Q:=fun h h1 h2=>by refine fin _ (q6b (ty:=o.type) h hI (hf _ (by simp[makes,hop,hcal])) hx hy h1 h2) ?_;simp[execOp,hop,resolve,hcal,invoke,builtin,e1,e2]
    split at h
    ·rename_i b hk2;exact go h (.inr ⟨b,rfl⟩) fun _ _=>q09 hk2
    ·rename_i e' hk2;replace h:=qaw h;obtain⟨h1,h⟩:=h;refine go h (.inl ⟨_,qcd hk2⟩) fun b hb=> ?_;rw[hb] at h1;cases h1
    ·cases h
   ·cases h
  ·rename_i f hcal;split at h
   ·rename_i g A B hfn;have hfv:=hv f;obtain⟨va,vb,hfe,hA,hB⟩: ∃va vb:List Value,a.eval f=.func (.func g) va.toArray vb.toArray/\RepL w Im ρ (shOf H) A va/\RepL w Im ρ (shOf H) B vb:=by
     generalize opd E s f=ov at hfv hfn;unfold fnOf at hfn;split at hfn
     ·simp only[zaa,zbb] at hfn;obtain⟨rfl,rfl,rfl⟩:=hfn;generalize a.eval f=ev at hfv
      cases hfv.closed with
      | fn _ _ _ va vb l1 l2 r1 r2=>
       refine⟨va,vb,rfl,⟨by simp[l1],fun j c v hj hx=> ?_⟩,⟨by simp[l2],fun j c v hj hx=> ?_⟩⟩
       ·rw[zaj] at hj;obtain⟨d,hd,rfl⟩:=zaq.1 hj;exact .cl _ _ (r1 j d v hd hx)
       ·rw[zaj] at hj;obtain⟨d,hd,rfl⟩:=zaq.1 hj;exact .cl _ _ (r2 j d v hd hx)
     ·simp only[zaa,zbb] at hfn;obtain⟨rfl,rfl,rfl⟩:=hfn;generalize a.eval f=ev at hfv
      cases hfv with
      | fn _ _ _ va vb l1 l2 r1 r2=>exact⟨va,vb,rfl,⟨l1,r1⟩,⟨l2,r2⟩⟩
     ·cases hfn
    have hargs:=(hA.append (hlist c.args)).append hB;have hmk: ∀i,i<4->(match f with|.func g=>E.keep g|_=>false)=true->Free (qmr o+1000000*i) s H:=fun i hi hm=>by
     cases f with
     | func g'=>
      have hm:E.keep g'=true:=hm;have hmem: ∀p∈[qmr o,qmr o+1000000,qmr o+2000000,qmr o+3000000],Free p s H:=fun p hp=>hf p (by simp only[makes,hop,hcal,hm];exact hp);have:i=0\/i=1\/i=2\/i=3:=by omega
      rcases this with rfl|rfl|rfl|rfl
      ·exact hmem _ (by simp)
      ·exact hmem _ (by simp)
      ·exact hmem _ (by simp)
      ·exact hmem _ (by simp)
     | _=>cases hm
    have hrun:=xbey hE h hI hargs (fun i=>by unfold qmr;split<;>omega) (fun hm i hi=>hmk i hi hm);have hx:(execOp a.eval o).run P w=(callFunc g (va++c.args.toList.map a.eval++vb).toArray).run P w:=by
     have e:(va++c.args.toList.map a.eval++vb).toArray=va.toArray++c.args.map a.eval++vb.toArray:=by apply zcw;simp
     rw[e];simp[execOp,hop,resolve,hcal,hfe,Deferred.ofValue,invoke]
    unfold Oper.wp;rw[hx];rcases hrun with⟨h1,h2⟩|⟨v,w',h1,h2⟩
    ·rw[h1,Oper.upon_enter];refine h2.mono fun e w' he=> ?_;rcases he with⟨v,u,x,Im',ρ',rfl,g1,g2,g3⟩|⟨cc,u,x,Im',ρ',rfl,g1,g2,g3⟩
     ·exact hk v u x w' Im' ρ' g1 g2 g3
     ·exact hp cc u x w' Im' ρ' g1 g2 g3
    ·rw[h1,Oper.upon_value];rcases h2 with⟨v2,u,x,Im',ρ',e1,g1,g2,g3⟩|⟨cc,u,x,Im',ρ',e1,g1,g2,g3⟩
     ·cases e1;exact hk v2 u v w' Im' ρ' g1 g2 g3
     ·cases e1
   ·cases h
  ·cases h
 | _=>simp[opK,hop] at h
theorem qsi{α:Type}(n:Nat)(u v:α): ∀l:List (Nat×α),qct (qct l n u) n v=qct l n v
 | []=>by simp[qct,zbk]
 | (k,x)::r=>by
  simp only[qct]
  cases hk:Nat.beq k n with
  | true=>simp[qct,zbk]
  | false=>
   cases hb:Nat.blt n k with
   | true=>simp[qct,zbk]
   | false=>simp only[cond_false,qct,hk,hb,qsi n u v r]
theorem Reps.mono{w:World}{Im Im':Nat->Prop}{ρ:Nat->Loc}{S:Nat->Option Sh}{l:List V}{vs:List Value}(h:Reps w Im ρ S l vs)(hm: ∀b,Im b->Im' b):Reps w Im' ρ S l vs:=
 ⟨h.1,h.2.1,fun j c v hj hv=>(h.2.2 j c v hj hv).congr (fun _ _=>rfl) hm fun _ _=>.inr ⟨rfl,rfl⟩⟩
theorem Free.set{p q:Nat}{s:List (Nat×V)}{H:Heap}(h:Free p s H){o o':Obj}(hq:qaj H q=some o)(ho:o'.row=o.row):Free p s (qct H q o'):=by
 have hne:p≠q:=fun e=>by subst e;rw[h.none] at hq;cases hq
 refine⟨h.big,by rw[qau,if_neg hne];exact h.none,h.sl,fun x u hx=> ?_⟩;rw[qau] at hx;split at hx
 ·simp only[zaa] at hx;subst hx;rw[ho];exact h.ob q o hq
 ·exact h.ob x u hx
theorem Inv.poke{E:Env}{w0:Base}{bl I0:Nat->Prop}{s:List (Nat×V)}{H:Heap}{a:Act}{w w':World}{Im:Nat->Prop}{ρ:Nat->Loc}(h:Inv E w0 bl I0 s H a w Im ρ){p:Nat}{row:Rw}(hp:qaj H p=some ⟨row,false⟩){b base lim off:Nat}(hr:ρ p=some (b,base,lim)){vs:List Value}(hw:SetAt w b (base+off) vs w')(hoff:(qaf row).length<=off):Inv E w0 bl I0 s H a w' Im ρ:=by
 obtain⟨hlt,_,hlk⟩:=h.gam.lk p _ b base lim hp hr;obtain⟨hnI,hbl⟩:=hlk rfl;have hf:=Fr.ofSet hw;have hk:Keep Im w w':=fun c hi=>hf.block c (h.gam.im c hi) fun e=>by subst e;exact hnI hi
 have hv: ∀v x,VRep w Im ρ (shOf H) v x->VRep w' Im ρ (shOf H) v x:=fun v x hx=>hx.congr hk (fun _ h=>h) fun q _=>.inr ⟨rfl,rfl⟩;refine⟨⟨fun c hi=>by have:=h.gam.im c hi;have:=hf.size;omega,h.gam.i0,fun q o hq=> ?_,h.gam.dj,fun q o c x y hq hrq=> ?_,h.gam.imo⟩,
  ⟨hf.os.trans h.fr.os,hf.tape.trans h.fr.tape,hf.output.trans h.fr.output,zby h.fr.size hf.size,fun c hlt' hn=> ?_⟩,
  fun t=>hv _ _ (h.sl t),h.nt,h.df.keep hk (fun _ h=>h),fun g c hg=>(h.gl g c hg).keep hk (fun _ h=>h),h.st⟩
 ·by_cases e:q=p
  ·subst e;rw[hp] at hq;simp only[zaa] at hq;subst hq;have hO:=h.gam.ob q _ hp;rw[hr] at hO ⊢;obtain⟨o1,o2,o3,o4,o5⟩:=hO;refine⟨o1,by rw[hw.size];exact o2,o3,fun i hi=> ?_,fun j c hj=> ?_⟩
   ·obtain⟨c1,c2⟩:=o4 i hi;refine⟨?_,by rw[hw.fz];exact c2⟩;by_cases hin:base+i<base+off\/base+off+vs.length<=base+i
    ·rw[hw.cout _ hin];exact c1
    ·have:base+i=base+off+(i - off):=by omega
     rw[this,hw.cin (i - off) _ (zae (by omega))];rfl
   ·obtain⟨v,v1,v2,v3⟩:=o5 j c hj;have hjl:j<(qaf row).length:=(zad.1 hj).1;exact⟨v,by rw[hw.cout _ (.inl (by omega))];exact v1,v2,hv _ _ v3⟩
  ·refine ORep.congr (h.gam.ob q o hq) (fun c x y hrq=>hw.block c fun e'=> ?_) fun j c x hj hx=>hv _ _ hx;subst e';have:=(h.gam.dj q p o _ c x y base lim hq hp hrq hr e).2;cases this
 ·have:=h.gam.lk q o c x y hq hrq;exact⟨zbg this.1 hf.size,this.2⟩
 ·have hlt2:c<w.heap.size:=zbg hlt' h.fr.size;rw[hf.block c hlt2 fun e=> ?_]
  ·exact h.fr.block c hlt' hn
  ·subst e;rcases hbl with h1|h1
   ·exact hn h1
   ·omega
theorem q6h{r:Rw}(hok:okR r)(hv: ∀l,r≠.var l):(qaf r).length=r.len*r.esz:=by
 cases r with
 | ints k l=>simp[qaf,Rw.len,Rw.esz]
 | gen e l=>simp only[qaf,Rw.len,Rw.esz,zam];exact qbr hok
 | arri n k l=>simp only[qaf,Rw.len,Rw.esz,zam,zdr];exact hok
 | arrg n e l=>simp only[qaf,Rw.len,Rw.esz,zam];rw[qbr hok.2,hok.1]
 | var l=>exact absurd rfl (hv l)
theorem qpu{P:Program}{β:Type}{E:Env}{w0:Base}{bl I0:Nat->Prop}{s:List (Nat×V)}{H:Heap}{a:Act}{w:World}{Im:Nat->Prop}{ρ:Nat->Loc}{st t2 ty:TypeId}{x y:V}{ax ay:Value}{pos:Nat}{k:V->Upd->Option β}{res:β}(h:q0m P H st pos x y k=some res)(hI:Inv E w0 bl I0 s H a w Im ρ)(hf:Free pos s H)(hx:VRep w Im ρ (shOf H) x ax)(hy:VRep w Im ρ (shOf H) y ay)(hk2: ∃e',P.underlying t2=some (.slice e'))(hns: ∀b,y≠.cl (.str b)):
  Does P E w0 bl I0 s H a w k res (Builtin.append_ #[st,t2] ty #[ax,ay]):=by
 unfold q0m at h;split at h
 ·rename_i e hk;split at h
  ·rename_i r0 ry hr0 hry;obtain⟨i,z,z1,z2,z3,z4,z5,z6,z7,z8,z9,z10,z11,z12,z13⟩:=qgt hr0;have ht:=qcd hk;split at h
   ·rename_i p o len es;split at h
    ·rename_i row hp;split at h
     ·rename_i rx hwin;split at h
      ·rename_i r har;replace h:=qaa h;obtain⟨h1,h⟩:=h;replace h:=qaa h;obtain⟨h2,h⟩:=h;replace h:=qaa h;obtain⟨h3,h⟩:=h;replace h:=qaa h;obtain⟨h0,h⟩:=h;have h1:=qag.1 h1;have h2:=q60 h2;have h3:=q60 h3;have h0:1<=ry.len:=zb5 h0;obtain⟨a1,a2⟩:=qla har;obtain⟨hoky,hgy,news,hs,hn⟩:=xbkd hI.gam.ob hry hy z5 (.inl hk2) (fun b hb=>absurd hb (hns b)) (a1.imp (fun e=>by rw[e, <- a2,h1]) id);have hS:shOf H p=some (shp ⟨row,false⟩):=by simp[shOf,hp]
       have hO:=hI.gam.ob p _ hp;have grow: ∀ {w1:World} {ax:Value} {base:Option Addr} {cap:Nat} {olds:List Value},w1=w->ax=.slice base rx.len cap->okR rx->growing rx=true->
         (∀w',(∀A,w'.cell? A=w.cell? A)->(Builtin.firstCells (qaq P e) rx.len (.slice base rx.len cap)).run P w'=.ok olds.toArray w')->Reps w Im ρ (shOf H) (qaf rx) olds->cap<rx.len+ry.len->
         Does P E w0 bl I0 s H a w k res (Builtin.append_ #[st,t2] ty #[ax,ay]):=fun {w1 ax base cap olds} _ hax x1 x2 hold ho hcap=>by
        subst hax;obtain⟨Im1,hL,m1,m2,m3⟩:=hI.lock hp;have hg:=qo6 (s:=s) (H:=H) (ty:=ty) (k:=fun v u=>some (v,u)) (res:=(V.ref pos 0 r.len true (qaq P e),[(p,some ⟨row,true⟩),(pos,some ⟨r,false⟩)])) hL (hf.set hp rfl) ht z1 z2 z3 z4 har x1 x2 hoky h1 rfl rfl
         hold ((ho.mono m1).any x2) ((hn.mono m1).any hgy) hs hcap h2 h3
        obtain⟨v,u,val,w',Im',ρ',g1,g2,g3,g4⟩:=hg;simp only[zaa,zbb] at g1;obtain⟨rfl,rfl⟩:=g1;have hgp:qaj (updH H [(p,some ⟨row,true⟩),(pos,some ⟨r,false⟩)]) pos=some ⟨r,false⟩:=by show qaj (qct (qct H p _) pos _) pos=_;rw[qau,if_pos rfl]
        obtain⟨Im2,k1,k2,k3,k4⟩:=g3.lock hgp;have e1:qct (updH H [(p,some ⟨row,true⟩),(pos,some ⟨r,false⟩)]) pos ⟨r,true⟩=updH H [(p,some ⟨row,true⟩),(pos,some ⟨r,true⟩)]:=qsi _ _ _ _;rw[show({(⟨r,false⟩:Obj) with lock:=true}:Obj)=⟨r,true⟩ from rfl,e1] at k1;have hS2:shOf (updH H [(p,some ⟨row,true⟩),(pos,some ⟨r,true⟩)])=shOf (updH H [(p,some ⟨row,true⟩),(pos,some ⟨r,false⟩)]):=by funext q;show shOf (qct (qct H p ⟨row,true⟩) pos ⟨r,true⟩) q=shOf (qct (qct H p ⟨row,true⟩) pos ⟨r,false⟩) q;simp only[qda];rfl
        exact⟨_,_,val,w',Im2,ρ',h,g2,k1,by rw[hS2];exact g4.congr (fun _ _=>rfl) k2 fun _ _=>.inr ⟨rfl,rfl⟩⟩
       cases hx with
       | refN _ _ _ _ _ _ _ h0 _ _=>rw[hS] at h0;cases h0
       | refV _ s' _ _ q1 q2 q3 q4=>
        rw[hS] at q1;simp only[zaa] at q1;subst q1;rw[q2] at hO;have q3:row.len=0:=q3;obtain⟨x1,x2,x3,x4,x5⟩:=qff hwin hO.2.2 (by omega) (fun _=>by omega);have hc0:qaf rx=[]:=by have:=qcl x1 x2;rw[x4,zc2] at this;exact zcd.1 this
        exact grow (base:=none) (cap:=0) (olds:=[]) rfl (by rw[x4]) x1 x2 (fun w' _=>run_firstCells_none w' _ _ _ _) (by rw[hc0];exact⟨rfl,by simp,by simp⟩) (by omega)
       | ref _ _ _ _ _ s' b base lim ad cap q1 q2 q3 q4 q5 q6 q7 q8=>
        rw[hS] at q1;simp only[zaa] at q1;subst q1;have hO':=hO;rw[q2] at hO;have q3:row.esz=es:=q3;have q5:o+len<=row.len:=q5;have q6:o+len=row.len:=q6 rfl;obtain⟨x1,x2,x3,x4,x5⟩:=qff hwin hO.1 q5 (fun _=>q6);obtain⟨olds,n1,n2⟩:=qnw hwin q5 (fun _=>q6) hO;obtain⟨g1,g2,g3,g4,g5,g6,g7⟩:=qe6 har x1 hoky;have hes:es=qaq P e:=by rw[<- q3, <- x3, <- g3,h1]
        subst hes;have hcl:(o+cap)*qaq P e=o*qaq P e+cap*qaq P e:=zdc ..;have hx1:(qaf rx).length=len*qaq P e:=by rw[qcl x1 x2,x4,x3,q3]
        have hr1:(qaf r).length=r.len*qaq P e:=by rw[qcl g1 g2,h1]
        rw[q3] at n2;have hoa: ∀(j:Nat) (v:Value),olds[j]? =some v->w.cell? (ad.add j)=some v:=fun j v hj=>by
         have hjl:=(zad.1 hj).1;rw[n1.1,hx1] at hjl;have hlp:len≠0:=fun e=>by subst e;simp at hjl
         rw[q7 (by omega),qd6];exact n2 j v hj
        by_cases hroom:len+ry.len<=cap
        ·have hrc:r.len<=cap:=by rw[g4,x4];exact hroom
         have hlimr:r.len*qaq P e<=cap*qaq P e:=zce _ hrc;have hnl:news.length=ry.len*qaq P e:=hs.newsLen;have hsum:r.len*qaq P e=len*qaq P e+ry.len*qaq P e:=by rw[g4,x4,zdc]
         have hcap0:cap≠0:=by omega
         have had:=q7 hcap0;subst had;have hex: ∀j,j<news.length->(w.cell? ⟨b,base+o*qaq P e+len*qaq P e+j,none⟩).isSome=true/\w.frozen? ⟨b,base+o*qaq P e+len*qaq P e+j,none⟩=false:=fun j hj=>by have:=hO.2.2.2.1 (o*qaq P e+len*qaq P e+j) (by omega);rwa [show base+(o*qaq P e+len*qaq P e+j)=base+o*qaq P e+len*qaq P e+j by omega] at this
         have hrun:=run_append_room_src (P:=P) w st t2 ty e i ht z1 b (base+o*qaq P e) len cap ay ry.len news (by rw[z3];exact hs) hroom (fun j hj=>by rw[z3];exact(hex j hj).1) (fun j hj=>by rw[z3];exact(hex j hj).2);rw[z3, <- x4, <- g4] at hrun;rw[x4] at hrun;have hset:=qn2 (w:=w) (b:=b) news (base+(o*qaq P e+len*qaq P e)) (fun j hj=>by have:=(hex j hj).1;rwa [<- zbq]);have hrowl:(qaf row).length=o*qaq P e+len*qaq P e:=by rw[<- zdc,q6];rw[q6h hO.1 (fun l e=>by subst e;simp[Rw.window] at hwin),q3]
         rw[<- zbq] at hset;have hI1:=hI.poke hp q2 (off:=o*qaq P e+len*qaq P e) (by rw[<- zbq];exact hset) (by omega);obtain⟨Im1,hL,m1,m2,m3⟩:=hI1.lock hp;have hbI:Im1 b:=m2 b base lim q2;have hO1:=hI1.gam.ob p _ hp;rw[q2] at hO1;have hnI:=((hI.gam.lk p _ b base lim hp q2).2.2 rfl).1;have up: ∀ {r:Rw} {j:Nat} {c:V} {v:Value},growing r=true->(qaf r)[j]? =some c->VRep w Im ρ (shOf H) c v->VRep _ Im1 ρ (shOf (qct H p ⟨row,true⟩)) c v:=fun {r j c v} hg hj hv=>
          hv.congr (fun d hd=>hset.block d fun e=>by subst e;exact hnI hd) m1 fun x hx=>by have:=qcz (p:=x) (r:=r) (fun l e=>by subst e;cases hg) hj;rw[this] at hx;cases hx
         have hpl:=hL.placeG (lk:=true) (hf.set hp rfl) (r:=r) (b:=b) (base:=base+o*qaq P e) (lim:=lim - o*qaq P e) hO1.2.1 (fun _=>hbI) (fun h=>by cases h) (fun q ob x' y' hq hrq=>⟨rfl, ?_⟩) g1 (by omega) (fun j hj=> ?_) (fun l e=>by subst e;cases g2) fun j c hj=> ?_
         ·refine⟨_,_,_,_,Im1,_,h,hrun,hpl, ?_⟩;show VRep _ Im1 _ (shOf (qct (qct H p ⟨row,true⟩) pos ⟨r,true⟩)) _ _;exact .ref pos 0 r.len true (qaq P e) (shp ⟨r,true⟩) b (base+o*qaq P e) (lim - o*qaq P e) _ cap (by rw[qda,if_pos rfl]) (by simp[put]) h1 hrc (by simp[shp]) (fun _=>by simp[shp]) (fun h=>by simp) (by rw[za1];omega)
         ·rw[qau] at hq;split at hq
          ·simp only[zaa] at hq;subst hq;rfl
          ·rename_i hne;have:=(hI.gam.dj q p ob _ b x' y' base lim hq hp hrq q2 hne).2;cases this
         ·have:=hO1.2.2.2.1 (o*qaq P e+j) (by omega);rwa [<- zbq] at this
         ·rw[g5] at hj;by_cases hjx:j<(qaf rx).length
          ·rw[zax hjx] at hj;have hjl:j<olds.length:=by rw[n1.1];exact hjx
           have hgj:=zae hjl;exact⟨_,by rw[hset.cout _ (.inl (by omega))];exact n2 j _ hgj,n1.2.1 _ (zch hjl),up (r:=rx) x2 hj (n1.2.2 j c _ hj hgj)⟩
          ·rw[zav (by omega)] at hj;have hjl:j - (qaf rx).length<news.length:=by rw[hn.1];exact(zad.1 hj).1
           have hgj:=zae hjl;refine⟨_, ?_,hn.2.1 _ (zch hjl),up (r:=ry) hgy hj (hn.2.2 _ c _ hj hgj)⟩;rw[<- hset.cin _ _ hgj];congr 2;omega
        ·exact grow (base:=some ad) (cap:=cap) (olds:=olds) rfl (by rw[x4]) x1 x2 (fun w' hw'=>run_firstCells_some (P:=P) w' _ _ ad _ _ olds (by rw[n1.1,hx1,x4]) fun j v hj=>by rw[hw'];exact hoa j v hj) n1 (by omega)
      ·cases h
     ·cases h
    ·cases h
   ·cases h
  ·cases h
 ·cases h
theorem xbeu{P:Program}{β:Type}{E:Env}{w0:Base}{bl I0:Nat->Prop}{s:List (Nat×V)}{H:Heap}{a:Act}{w:World}{Im:Nat->Prop}{ρ:Nat->Loc}{o:Oper}{k:V->Upd->Option β}{r:β}{next:Act->World->Prop}{Q:Exit->Act->World->Prop}(h:akK P E s H o k=some r)(hI:Inv E w0 bl I0 s H a w Im ρ)(hf: ∀p∈makes E o,Free p s H)(hk: ∀v u x w' Im' ρ',k v u=some r->Inv E w0 bl I0 s (updH H u) a w' Im' ρ'->VRep w' Im' ρ' (shOf (updH H u)) v x->next (a.put o.dst x) w'):o.wp P a w next Q:=by
 have hv: ∀x:Operand,VRep w Im ρ (shOf H) (opd E s x) (a.eval x):=hI.opd;unfold akK at h;split at h
 ·rename_i c hop;split at h
  ·rename_i hcal;split at h
   ·rename_i t t2 x y hat hae;have hl:RepL w Im ρ (shOf H) (c.args.toList.map (opd E s)) (c.args.toList.map a.eval):=⟨by simp,fun j p q hj hq=>by
     rw[zaj] at hj hq
     cases hd:c.args.toList[j]? with
     | none=>rw[hd] at hj;cases hj
     | some x=>
      rw[hd] at hj hq;simp only[zap,zaa] at hj hq;subst hj hq;exact hv _⟩
    rw[hae] at hl;obtain⟨ax,ay,hav⟩: ∃ax ay,c.args.toList.map a.eval=[ax,ay]:=by
     have:=hl.1
     cases hm:c.args.toList.map a.eval with
     | nil=>rw[hm] at this;simp at this
     | cons u r=>
      cases r with
      | nil=>rw[hm] at this;simp at this
      | cons u2 r2=>
       cases r2 with
       | nil=>exact⟨u,u2,rfl⟩
       | cons=>rw[hm] at this;simp at this
    rw[hav] at hl;have hx:=hl.2 0 x ax rfl rfl;have hy:=hl.2 1 y ay rfl rfl;have e1:c.argTypes= #[t,t2]:=by apply zcw;simpa using hat
    have e2:c.args.map a.eval= #[ax,ay]:=by apply zcw;simpa using hav
    split at h
    ·rename_i e' hk2;replace h:=qaw h;obtain⟨h1,h⟩:=h;obtain⟨v,u,val,w',Im',ρ',g1,g2,g3,g4⟩:=qpu (ty:=o.type) h hI (hf _ (by simp[makes,hop,hcal])) hx hy ⟨_,qcd hk2⟩ fun b hb=>by rw[hb] at h1;cases h1
     refine qf3 (w':=w') (v:=val) ?_ (hk v u val w' Im' ρ' g1 g3 g4);simp[execOp,hop,resolve,hcal,invoke,builtin,e1,e2,g2]
    ·cases h
   ·cases h
  ·cases h
 ·cases h
theorem Inv.put{E:Env}{w0:Base}{bl I0:Nat->Prop}{s:List (Nat×V)}{H:Heap}{a:Act}{w:World}{Im:Nat->Prop}{ρ:Nat->Loc}(h:Inv E w0 bl I0 s H a w Im ρ){d:Option Tmp}{v:V}{x:Value}(hd: ∀t,d=some t->t<E.nt)(hv:VRep w Im ρ (shOf H) v x):Inv E w0 bl I0 (setD s d v) H (a.put d x) w Im ρ:=by
 refine⟨h.gam,h.fr,fun t=> ?_, ?_, ?_,h.gl,h.st⟩
 ·rw[qdx]
  cases d with
  | none=>simpa [Act.put] using h.sl t
  | some d=>
   have hlt:d<a.tmps.size:=by rw[h.nt];exact hd d rfl
   by_cases e:d=t
   ·subst e;simp only[if_true,Act.put];rw[zaz,zb0];simpa [hlt] using hv
   ·have e': ¬(some d=some t):=fun h=>e (by simpa using h);rw[if_neg e'];have:=h.sl t;simp only[Act.put];rw[zaz,zb0];rw[zaz] at this;simpa [e] using this
 ·cases d<;>simp[Act.put,h.nt]
 ·cases d<;>exact h.df
theorem Inv.know{E:Env}{w0:Base}{bl I0:Nat->Prop}{s s':List (Nat×V)}{H:Heap}{a:Act}{w:World}{Im:Nat->Prop}{ρ:Nat->Loc}(h:Inv E w0 bl I0 s H a w Im ρ)(hs: ∀t,getV s' t=getV s t):Inv E w0 bl I0 s' H a w Im ρ:=⟨h.gam,h.fr,fun t=>by rw[hs];exact h.sl t,h.nt,h.df,h.gl,h.st⟩
theorem qqb(s:List (Nat×V))(d:Nat)(v:V)(t:Nat):getV (qct s d v) t=if t=d then v else getV s t:=by by_cases h:t=d<;>simp[getV,qau,h]
theorem qga{β:Type}{E:Env}{w0:Base}{bl I0:Nat->Prop}{s:List (Nat×V)}{H:Heap}{a:Act}{w:World}{Im:Nat->Prop}{ρ:Nat->Loc}{d:Nat}{f:Bool->List (Nat×V)->Option β}{r:β}(h:decK s d f=some r)(hI:Inv E w0 bl I0 s H a w Im ρ): ∃b s',f b s'=some r/\Inv E w0 bl I0 s' H a w Im ρ/\a.tmps.getD d undef=.bool b:=by
 unfold decK at h;split at h
 ·rename_i b hb;have hv:=hI.sl d;rw[hb] at hv;refine⟨b,qct s d (.cl (.bool b)), ?_,hI.know fun t=> ?_,hv.bool⟩
  ·cases b<;>exact h
  ·rw[qqb];split
   ·rename_i e;subst e;exact hb.symm
   ·rfl
 ·cases h
def qpe(g:V->V):Rw->Rw
 | .var l=>.var (l.map g)
 | r=>r
theorem qfq(g:V->V)(o:Obj):shp {o with row:=qpe g o.row}=shp o:=by obtain⟨r,l⟩:=o;cases r<;>simp[shp,qpe,Rw.len,Rw.esz,q6u]
theorem qxi{g:V->V}(hg: ∀c,g (.cl c)=.cl c)(r:Rw):qaf (qpe g r)=(qaf r).map g:=by cases r<;>simp[qpe,qaf,hg]
theorem q3x{w:World}{Im:Nat->Prop}{ρ ρ':Nat->Loc}{H H':Heap}{f:Nat->Nat}{g:V->V}{Bad:Nat->Prop}(hg: ∀c,g c=.undef\/(g c=renV f c/\∀m,qdj m c=true-> ¬Bad m))(hb: ∀m, ¬Bad m->shOf H' (f m)=none\/(shOf H' (f m)=shOf H m/\ρ' (f m)=ρ m))(v:V)(x:Value)(hx:VRep w Im ρ (shOf H) v x):VRep w Im ρ' (shOf H') (g v) x:=by
 rcases hg v with e|⟨e,hm⟩
 ·rw[e];exact .undef x
 ·rw[e];exact hx.ren (fun _ _=>rfl) (fun _ h=>h) fun q hq=>hb q (hm q hq)
theorem Gam.map{B:Nat}{bl I0:Nat->Prop}{H H':Heap}{w:World}{Im:Nat->Prop}{ρ ρ':Nat->Loc}(h:Gam B bl I0 w Im ρ H){f:Nat->Nat}{g:V->V}{Bad:Nat->Prop}(hgc: ∀c,g (.cl c)=.cl c)(hg: ∀c,g c=.undef\/(g c=renV f c/\∀m,qdj m c=true-> ¬Bad m))(hH: ∀q o',qaj H' q=some o'->∃p o,qaj H p=some o/\f p=q/\ρ' q=ρ p/\o'= {o with row:=qpe g o.row})(hb: ∀m, ¬Bad m->shOf H' (f m)=none\/(shOf H' (f m)=shOf H m/\ρ' (f m)=ρ m)):Gam B bl I0 w Im ρ' H':=by
 have hv:=q3x (w:=w) (Im:=Im) hg hb;refine⟨h.im,h.i0,fun q o' hq=> ?_,fun q q' o o' b x y x' y' hq hq' hr hr' hne=> ?_,fun q o b x y hq hr=> ?_,h.imo⟩
 ·obtain⟨p,o,h1,h2,h3,rfl⟩:=hH q o' hq;rw[h3];have hO:=h.ob p o h1;show ORep _ _ _ _ (qpe g o.row) _
  cases hl:ρ p with
  | none=>
   rw[hl] at hO;obtain⟨a1,a2,a3⟩:=hO;cases hr:o.row<;>rw[hr] at a1 a2 a3<;>first|exact⟨a1,a2,a3⟩|cases a1
  | some l=>
   obtain⟨b,base,lim⟩:=l;rw[hl] at hO;obtain⟨a1,a2,a3,a4,a5⟩:=hO;refine⟨by cases hr:o.row<;>rw[hr] at a1<;>first|exact a1|trivial,a2,by rw[qxi hgc,zam];exact a3,a4,fun j c hj=> ?_⟩;rw[qxi hgc,zaj] at hj;obtain⟨d,hd,rfl⟩:=zaq.1 hj;obtain⟨v,v1,v2,v3⟩:=a5 j d hd;exact⟨v,v1,v2,hv d v v3⟩
 ·obtain⟨p,u,h1,h2,h3,rfl⟩:=hH q o hq;obtain⟨p',u',h1',h2',h3',rfl⟩:=hH q' o' hq';rw[h3] at hr;rw[h3'] at hr';exact h.dj p p' u u' b x y x' y' h1 h1' hr hr' fun e=>hne (by rw[<- h2, <- h2',e])
 ·obtain⟨p,u,h1,h2,h3,rfl⟩:=hH q o hq;rw[h3] at hr;exact h.lk p u b x y h1 hr
theorem Inv.map{E:Env}{w0:Base}{bl I0:Nat->Prop}{s s':List (Nat×V)}{H H':Heap}{a:Act}{w:World}{Im:Nat->Prop}{ρ ρ':Nat->Loc}(h:Inv E w0 bl I0 s H a w Im ρ){f:Nat->Nat}{g:V->V}{Bad:Nat->Prop}(hgc: ∀c,g (.cl c)=.cl c)(hg: ∀c,g c=.undef\/(g c=renV f c/\∀m,qdj m c=true-> ¬Bad m))(hs: ∀t,getV s' t=.undef\/getV s' t=g (getV s t))(hH: ∀q o',qaj H' q=some o'->∃p o,qaj H p=some o/\f p=q/\ρ' q=ρ p/\o'= {o with row:=qpe g o.row}/\(q<32->p=q))(hb: ∀m, ¬Bad m->shOf H' (f m)=none\/(shOf H' (f m)=shOf H m/\ρ' (f m)=ρ m)):Inv E w0 bl I0 s' H' a w Im ρ':=by
 refine⟨h.gam.map hgc hg (fun q o' hq=>let ⟨p,o,h1,h2,h3,h4,_⟩:=hH q o' hq;⟨p,o,h1,h2,h3,h4⟩) hb,h.fr,fun t=> ?_,h.nt,h.df,h.gl,fun j o hj hg=> ?_⟩
 ·rcases hs t with e|e
  ·rw[e];exact .undef _
  ·rw[e];exact q3x hg hb _ _ (h.sl t)
 ·obtain⟨p,u,h1,h2,h3,rfl,h4⟩:=hH j o hg;obtain rfl:=h4 hj;rw[qfq,h3];exact h.st p u hj h1
theorem qh6(p:Nat): ∀(s:List (Nat×V)) (t:Nat),getV (xbl7 p s) t=cond (qdj p (getV s t)) .undef (getV s t)
 | [],t=>rfl
 | (k,v)::r,t=>by
  have ih:=qh6 p r t;simp only[xbl7]
  cases hm:qdj p v with
  | true=>
   simp only[cond_true,getV,qaj]
   cases hb:Nat.beq k t with
   | true=>simp[hm]
   | false=>exact ih
  | false=>
   simp only[cond_false,getV,qaj]
   cases hb:Nat.beq k t with
   | true=>simp[hm]
   | false=>exact ih
theorem qu4(f:Nat->Nat): ∀(s:List (Nat×V)) (t:Nat),getV (renS f s) t=renV f (getV s t)
 | [],t=>rfl
 | (k,v)::r,t=>by
  have ih:=qu4 f r t;simp only[renS,getV,qaj]
  cases hb:Nat.beq k t with
  | true=>rfl
  | false=>exact ih
theorem qxq(l:List Nat): ∀(s:List (Nat×V)) (t:Nat),getV (trimS l s) t=.undef\/getV (trimS l s) t=getV s t
 | [],t=>.inl rfl
 | (k,v)::r,t=>by
  have ih:=qxq l r t;simp only[trimS]
  cases hk:l.any (Nat.beq k) with
  | true=>
   simp only[cond_true,getV,qaj]
   cases hb:Nat.beq k t with
   | true=>exact .inr rfl
   | false=>exact ih
  | false=>
   simp only[cond_false];by_cases hb:k=t
   ·subst hb;left;have key: ∀r:List (Nat×V),getV (trimS l r) k=.undef:=fun r=>by
     induction r with
     | nil=>rfl
     | cons x r ih=>
      obtain⟨k',v'⟩:=x;simp only[trimS]
      cases hk':l.any (Nat.beq k') with
      | true=>
       simp only[cond_true,getV,qaj]
       cases hb:Nat.beq k' k with
       | true=>obtain rfl:=qag.1 hb;rw[hk] at hk';cases hk'
       | false=>exact ih
      | false=>exact ih
    exact key r
   ·rcases ih with h|h
    ·exact .inl h
    ·right;rw[h];have:Nat.beq k t=false:=by rw[zau];intro h';exact hb (qag.1 h')
     simp[getV,qaj,this]
theorem qf6(l:List Nat): ∀(H:Heap) (q:Nat) (o:Obj),qaj (trimH l H) q=some o->qaj H q=some o
 | [],q,o,h=>by cases h
 | (k,v)::r,q,o,h=>by
  have ih:=qf6 l r q o;simp only[trimH] at h
  cases hk:l.any (Nat.beq k) with
  | true=>
   rw[hk] at h;simp only[cond_true,qaj] at h ⊢
   cases hb:Nat.beq k q with
   | true=>rw[hb] at h;exact h
   | false=>rw[hb] at h;exact ih h
  | false=>
   rw[hk] at h;simp only[cond_false] at h;simp only[qaj]
   cases hb:Nat.beq k q with
   | true=>
    obtain rfl:=qag.1 hb;exfalso;have key: ∀r:Heap,qaj (trimH l r) k=none:=fun r=>by
     induction r with
     | nil=>rfl
     | cons x r ih=>
      obtain⟨k',v'⟩:=x;simp only[trimH]
      cases hk':l.any (Nat.beq k') with
      | true=>
       simp only[cond_true,qaj]
       cases hb:Nat.beq k' k with
       | true=>obtain rfl:=qag.1 hb;rw[hk] at hk';cases hk'
       | false=>exact ih
      | false=>exact ih
    rw[key r] at h;cases h
   | false=>exact ih h
theorem qe0(p:Nat): ∀(H:Heap) (q:Nat),qaj (q6w p H) q=if q=p then none else(qaj H q).map fun o=> {o with row:=q6x p o.row}
 | [],q=>by simp[q6w,qaj]
 | (k,o)::r,q=>by
  have ih:=qe0 p r q;simp only[q6w]
  cases hk:Nat.beq k p with
  | true=>
   obtain rfl:=qag.1 hk;simp only[cond_true];rw[ih];split
   ·rfl
   ·rename_i hne;have:Nat.beq k q=false:=by rw[zau];intro h';exact hne (qag.1 h').symm
    simp[qaj,this]
  | false=>
   simp only[cond_false,qaj]
   cases hb:Nat.beq k q with
   | true=>
    obtain rfl:=qag.1 hb;rw[if_neg (qa7 hk)];rfl
   | false=>exact ih
theorem qhx(f:Nat->Nat): ∀(H:Heap) (q:Nat) (o':Obj),qaj (q4m f H) q=some o'->∃p o,qaj H p=some o/\f p=q/\o'= {o with row:=qgu f o.row}
 | [],q,o',h=>by cases h
 | (k,ob)::r,q,o',h=>by
  simp only[q4m] at h;rw[qau] at h;split at h
  ·rename_i e;subst e;simp only[zaa] at h;exact⟨k,ob,by simp[qaj,zbk],rfl,h.symm⟩
  ·rename_i hne;obtain⟨p,o,h1,h2,h3⟩:=qhx f r q o' h;refine⟨p,o, ?_,h2,h3⟩;have:Nat.beq k p=false:=by rw[zau];intro h';rw[qag.1 h'] at hne;exact hne h2.symm
   simp[qaj,this,h1]
theorem q1n(f:Nat->Nat): ∀l:List V,renL f l=l.map (renV f)
 | []=>rfl
 | v::r=>by simp[renL,q1n f r]
def On(E:Env)(w0:Base)(bl I0:Nat->Prop)(σ:St)(a:Act)(w:World):Prop:= ∃Im ρ,Inv E w0 bl I0 σ.slots σ.heap a w Im ρ
section
variable {E:Env} {w0:Base} {bl I0:Nat->Prop} {σ:St} {a:Act} {w:World} {Im:Nat->Prop}
theorem On.rename(h:On E w0 bl I0 σ a w)(p:Nat){q:Nat}(hq:32<=q):On E w0 bl I0 (rename p q σ) a w:=by
 obtain⟨Im,ρ,h⟩:=h;have hone: ∀x,one2 p q x=if x=p then q else x:=fun x=>by
  unfold one2
  cases hb:Nat.beq x p with
  | true=>simp[qag.1 hb]
  | false=>simp[qa7 hb]
 have hget: ∀(x:Nat) (o':Obj),qaj (YtoiikagnjcjccaaGreatDoorA.rename p q σ).heap x=some o'->∃p' o,qaj σ.heap p'=some o/\p'≠q/\one2 p q p'=x/\o'= {o with row:=qpe (fun c=>renV (one2 p q) (cond (qdj q c) .undef c)) o.row}:=fun x o' hx=>by
  obtain⟨p',o,h1,h2,h3⟩:=qhx _ _ _ _ hx;change qaj (q6w q σ.heap) p'=some o at h1;rw[qe0] at h1;split at h1
  ·cases h1
  ·rename_i hne;obtain⟨u,hu,rfl⟩:=zaq.1 h1;refine⟨p',u,hu,hne,h2, ?_⟩;rw[h3];obtain⟨row,lock⟩:=u;cases row<;>simp[q6x,qgu,qpe,q1n,zdh]
 have hsrc: ∀p' x,p'≠q->one2 p q p'=x->(x=q/\p'=p)\/(x≠q/\p'=x):=fun p' x hne hx=>by
  rw[hone] at hx;split at hx
  ·rename_i e;exact .inl ⟨hx.symm,e⟩
  ·exact .inr ⟨by rw[<- hx];exact hne,hx⟩
 refine⟨Im,fun x=>if x=q then ρ p else ρ x,h.map (f:=one2 p q) (g:=fun c=>renV (one2 p q) (cond (qdj q c) .undef c)) (Bad:=fun m=>m=q) (fun c=>rfl) (fun c=> ?_) (fun t=>.inr ?_) (fun x o' hx=> ?_) fun m hm=> ?_⟩
 ·cases hb:qdj q c with
  | true=>left;rfl
  | false=>right;exact⟨rfl,fun m hm e=>by subst e;rw[hb] at hm;cases hm⟩
 ·show getV (renS (one2 p q) (xbl7 q σ.slots)) t=_;rw[qu4,qh6]
 ·obtain⟨p',o,h1,h2,h3,h4⟩:=hget x o' hx;refine⟨p',o,h1,h3, ?_,h4,fun hx32=> ?_⟩
  ·rcases hsrc p' x h2 h3 with⟨e1,e2⟩|⟨e1,e2⟩
   ·rw[if_pos e1,e2]
   ·rw[if_neg e1,e2]
  ·rcases hsrc p' x h2 h3 with⟨e1,e2⟩|⟨e1,e2⟩
   ·omega
   ·exact e2
 ·cases hx:qaj (YtoiikagnjcjccaaGreatDoorA.rename p q σ).heap (one2 p q m) with
  | none=>left;simp[shOf,hx]
  | some o'=>
   right;obtain⟨p',o,h1,h2,h3,h4⟩:=hget _ o' hx;have hpm:p'=m:=by
    rcases hsrc p' _ h2 h3 with⟨e1,e2⟩|⟨e1,e2⟩
    ·rcases hsrc m _ hm rfl with⟨e3,e4⟩|⟨e3,e4⟩
     ·rw[e2,e4]
     ·exact absurd e1 e3
    ·rcases hsrc m _ hm rfl with⟨e3,e4⟩|⟨e3,e4⟩
     ·exact absurd e3 e1
     ·rw[e2, <- e4]
   subst hpm;refine⟨?_, ?_⟩
   ·simp only[shOf,hx,h1,zap,h4];rw[qfq]
   ·show(if one2 p q p'=q then ρ p else ρ (one2 p q p'))=ρ p';rcases hsrc p' _ h2 rfl with⟨e1,e2⟩|⟨e1,e2⟩
    ·rw[if_pos e1,e2]
    ·rw[if_neg e1, <- e2]
theorem On.vacate(h:On E w0 bl I0 σ a w)(p:Nat):On E w0 bl I0 (vacate p σ) a w:=by
 obtain⟨Im,ρ,h⟩:=h;have hid: ∀c:V,renV (fun p=>p) c=c:=qkm;have hget: ∀(x:Nat) (o':Obj),qaj (q6w p σ.heap) x=some o'->x≠p/\∃o,qaj σ.heap x=some o/\o'= {o with row:=qpe (fun c=>cond (qdj p c) .undef c) o.row}:=fun x o' hx=>by
  rw[qe0] at hx;split at hx
  ·cases hx
  ·rename_i hne;obtain⟨u,hu,rfl⟩:=zaq.1 hx;refine⟨hne,u,hu, ?_⟩;obtain⟨row,lock⟩:=u;cases row<;>simp[q6x,qpe]
 refine⟨Im,ρ,h.map (f:=fun p=>p) (g:=fun c=>cond (qdj p c) .undef c) (Bad:=fun m=>m=p) (fun c=>rfl) (fun c=> ?_) (fun t=>.inr (qh6 p σ.slots t)) (fun x o' hx=> ?_) fun m hm=> ?_⟩
 ·cases hb:qdj p c with
  | true=>left;rfl
  | false=>right;exact⟨(hid c).symm,fun m hm e=>by subst e;rw[hb] at hm;cases hm⟩
 ·obtain⟨_,o,h1,h2⟩:=hget x o' hx;exact⟨x,o,h1,rfl,rfl,h2,fun _=>rfl⟩
 ·cases hx:qaj (q6w p σ.heap) m with
  | none=>left;simp[shOf,YtoiikagnjcjccaaGreatDoorA.vacate,hx]
  | some o'=>
   right;obtain⟨_,o,h1,h2⟩:=hget m o' hx;refine⟨?_,rfl⟩;simp only[shOf,YtoiikagnjcjccaaGreatDoorA.vacate,hx,h1,zap,h2];rw[qfq]
theorem On.trimS(h:On E w0 bl I0 σ a w)(l:List Nat):On E w0 bl I0 ⟨trimS l σ.slots,σ.heap⟩ a w:=by obtain⟨Im,ρ,h⟩:=h;refine⟨Im,ρ,h.map (f:=fun p=>p) (g:=fun c=>c) (Bad:=fun _=>False) (fun c=>rfl) (fun c=>.inr ⟨(qkm c).symm,fun _ _ h=>h⟩) (fun t=>qxq l σ.slots t) (fun x o' hx=> ?_) fun x _=>.inr ⟨rfl,rfl⟩⟩;refine⟨x,o',hx,rfl,rfl, ?_,fun _=>rfl⟩;obtain⟨row,lock⟩:=o';cases row<;>simp[qpe]
theorem On.trimH(h:On E w0 bl I0 σ a w)(m:List Nat):On E w0 bl I0 ⟨σ.slots,trimH m σ.heap⟩ a w:=by
 obtain⟨Im,ρ,h⟩:=h;refine⟨Im,ρ,h.map (f:=fun p=>p) (g:=fun c=>c) (Bad:=fun _=>False) (fun c=>rfl) (fun c=>.inr ⟨(qkm c).symm,fun _ _ h=>h⟩) (fun t=>.inr rfl) (fun x o' hx=> ?_) fun x _=> ?_⟩
 ·refine⟨x,o',qf6 m _ _ _ hx,rfl,rfl, ?_,fun _=>rfl⟩;obtain⟨row,lock⟩:=o';cases row<;>simp[qpe]
 ·cases hx:qaj (YtoiikagnjcjccaaGreatDoorA.trimH m σ.heap) x with
  | none=>left;simp[shOf,hx]
  | some o'=>right;exact⟨by simp[shOf,hx,qf6 m _ _ _ hx],rfl⟩
theorem On.free(h:On E w0 bl I0 σ a w)(p:Nat):On E w0 bl I0 (free p σ) a w:=by
 unfold YtoiikagnjcjccaaGreatDoorA.free;split
 ·exact h.rename p (by omega)
 ·exact h.vacate p
theorem On.frees: ∀(l:List Nat) {σ:St},On E w0 bl I0 σ a w->On E w0 bl I0 (l.foldl (fun τ p=>YtoiikagnjcjccaaGreatDoorA.free p τ) σ) a w
 | [],σ,h=>h
 | p::r,σ,h=>On.frees r (On.free h p)
theorem On.prep: ∀(l:List Oper) {σ:St},On E w0 bl I0 σ a w->On E w0 bl I0 (prep E l σ) a w
 | [],σ,h=>h
 | o::r,σ,h=>by simp only[YtoiikagnjcjccaaGreatDoorA.prep];refine On.prep r ?_;exact On.frees (makes E o) h
theorem On.renAll: ∀(l:List (Nat×Nat)) {σ:St},On E w0 bl I0 σ a w->On E w0 bl I0 (renAll l σ) a w
 | [],σ,h=>h
 | (p,q)::r,σ,h=>by
  simp only[YtoiikagnjcjccaaGreatDoorA.renAll];refine On.renAll r ?_;split
  ·cases hb:Nat.ble 32 q with
   | true=>exact h.rename _ (zb5 hb)
   | false=>exact h
  ·exact h
theorem Inv.recell{s:List (Nat×V)}{H:Heap}{ρ:Nat->Loc}(h:Inv E w0 bl I0 s H a w Im ρ){p i:Nat}{l:List V}{lk:Bool}{c c':V}(hp:qaj H p=some ⟨.var l,lk⟩)(hi:l[i]? =some c)(hc: ∀x,VRep w Im ρ (shOf H) c x->VRep w Im ρ (shOf H) c' x):Inv E w0 bl I0 s (qct H p ⟨.var (l.set i c'),lk⟩) a w Im ρ:=by
 have hS:shOf (qct H p ⟨.var (l.set i c'),lk⟩)=shOf H:=by
  funext q;rw[qda];split
  ·rename_i e;subst e;simp[shOf,hp,shp,Rw.len,Rw.esz,q6u]
  ·rfl
 have old: ∀q o,qaj (qct H p ⟨.var (l.set i c'),lk⟩) q=some o->∃o',qaj H q=some o'/\o'.lock=o.lock/\(q≠p->o'=o):=fun q o hq=>by
  rw[qau] at hq;split at hq
  ·rename_i e;subst e;simp only[zaa] at hq;subst hq;exact⟨_,hp,rfl,fun e=>absurd rfl e⟩
  ·exact⟨o,hq,rfl,fun _=>rfl⟩
 refine⟨⟨h.gam.im,h.gam.i0,fun q o hq=> ?_,fun q q' o o' b x y x' y' hq hq' hr hr' hne=> ?_,fun q o b x y hq hr=> ?_,h.gam.imo⟩,h.fr,fun t=> ?_,h.nt,h.df,h.gl,fun j o hj hg=> ?_⟩
 ·rw[hS];by_cases e:q=p
  ·subst e;rw[qau,if_pos rfl] at hq;simp only[zaa] at hq;subst hq;have hO:=h.gam.ob q _ hp;show ORep w Im ρ (shOf H) (.var (l.set i c')) (ρ q)
   cases hr:ρ q with
   | none=>rw[hr] at hO;exact absurd hO.1 (by simp[growing])
   | some loc=>
    obtain⟨b,base,lim⟩:=loc;rw[hr] at hO;obtain⟨h1,h2,h3,h4,h5⟩:=hO;refine⟨trivial,h2,by simpa [qaf] using h3,h4,fun j d hj=> ?_⟩;simp only[qaf] at hj h5;rw[List.getElem?_set] at hj;split at hj
    ·rename_i e;subst e;split at hj
     ·simp only[zaa] at hj;subst hj;obtain⟨v,v1,v2,v3⟩:=h5 i c hi;exact⟨v,v1,v2,hc v v3⟩
     ·cases hj
    ·exact h5 j d hj
  ·obtain⟨o',g1,_,g3⟩:=old q o hq;rw[g3 e] at g1;exact h.gam.ob q o g1
 ·obtain⟨u,g1,g2,_⟩:=old q o hq;obtain⟨u',g1',g2',_⟩:=old q' o' hq';rw[<- g2, <- g2'];exact h.gam.dj q q' u u' b x y x' y' g1 g1' hr hr' hne
 ·obtain⟨u,g1,g2,_⟩:=old q o hq;rw[<- g2];exact h.gam.lk q u b x y g1 hr
 ·rw[hS];exact h.sl t
 ·by_cases e:j=p
  ·subst e;rw[qau,if_pos rfl] at hg;simp only[zaa] at hg;subst hg;have:=h.st j _ hj hp;rw[this];simp[shp,Rw.len,Rw.esz,q6u]
  ·rw[qau,if_neg e] at hg;exact h.st j o hj hg
theorem On.virK: ∀(l:List (Nat×Nat×Nat×Rw)) {σ:St},On E w0 bl I0 σ a w->On E w0 bl I0 (virK l σ) a w
 | [],σ,h=>h
 | (p,i,q,e)::r,σ,h=>by
  simp only[YtoiikagnjcjccaaGreatDoorA.virK];refine On.virK r ?_;split
  ·rename_i l lk hp;split
   ·rename_i hi
    cases hb:(xbem σ.slots σ.heap [q]&&qxn e) with
    | false=>exact h
    | true=>
     simp only[zab] at hb;simp only[cond_true];obtain⟨Im,ρ,hI⟩:=h;have hf:=qgc hb.1 q (by simp);have he:growing e=true/\e.len=0/\okR e:=by
      cases e with
      | ints k l=>cases l<;>simp_all [qxn,growing,Rw.len,okR]
      | gen n l=>cases l<;>simp_all [qxn,growing,Rw.len,okR]
      | _=>simp[qxn] at hb
     have h1:=hI.virtual hf he.1 he.2.1 he.2.2;have hqp: ¬p=q:=fun e=>by subst e;have:=hf.none;rw[hp] at this;cases this
     exact⟨Im,put ρ q none,h1.recell (p:=p) (i:=i) (l:=l) (lk:=lk) (c:=.nils) (by rw[qau,if_neg hqp];exact hp) hi fun x hx=>by
      cases hx;exact .refV q (shp ⟨e,false⟩) true _ (by rw[qda,if_pos rfl]) (by simp[put]) he.2.1 rfl⟩
   ·exact h
  ·exact h
theorem On.tx{l:Option (List Nat)}(h:On E w0 bl I0 σ a w):On E w0 bl I0 (tx l σ) a w:=by
 cases l with
 | none=>exact h
 | some l=>exact(h.trimS l).trimH _
theorem On.head(h:On E w0 bl I0 σ a w)(rid:Nat):On E w0 bl I0 (head E rid σ) a w:=(On.renAll _ (On.virK _ (h.trimS _))).trimH _
end
theorem Fr.trans{w0 w w':World}{bl bl':Nat->Prop}(h:Fr w0 bl w)(h':Fr w bl' w')(hb: ∀b,bl' b->bl b\/w0.heap.size<=b):Fr w0 bl w':=
 ⟨h'.os.trans h.os,h'.tape.trans h.tape,h'.output.trans h.output,zby h.size h'.size,fun b hlt hn=>
  (h'.block b (zbg hlt h.size) fun e=>(hb b e).elim hn fun h=>absurd hlt (by omega)).trans (h.block b hlt hn)⟩
theorem Fr.mono{w0 w:World}{bl bl':Nat->Prop}(h:Fr w0 bl w)(hb: ∀b,bl b->bl' b\/w0.heap.size<=b):Fr w0 bl' w:=
 ⟨h.os,h.tape,h.output,h.size,fun b hlt hn=>h.block b hlt fun e=>(hb b e).elim hn fun h=>absurd hlt (by omega)⟩
theorem Fr.alloc(w:World)(o:Go.Obj)(bl:Nat->Prop):Fr w bl (w.alloc o):=⟨rfl,rfl,rfl,by simp,fun b hb _=>Go.RowKit.Below.heap_alloc w o b hb⟩
theorem Fr.putObj(w:World)(l:Nat)(o:Go.Obj):Fr w (fun b=>b=l) (w.putObj l o):=⟨rfl,rfl,rfl,by simp,fun b hb hn=>World.putObj_heap_other hn⟩
def chg(H:Heap)(ρ:Nat->Loc)(b:Nat):Prop:= ∃p o x y,qaj H p=some o/\o.lock=false/\ρ p=some (b,x,y)
def obs(H:Heap)(ρ:Nat->Loc)(b:Nat):Prop:= ∃p o x y,qaj H p=some o/\ρ p=some (b,x,y)
section
variable {P:Program} {E:Env} {w0:Base} {bl I0:Nat->Prop} {s:List (Nat×V)} {H:Heap} {a:Act} {w w':World} {Im:Nat->Prop} {ρ:Nat->Loc}
theorem Inv.beside(h:Inv E w0 bl I0 s H a w Im ρ){Ch:Nat->Prop}(hf:Fr w Ch w')(hc: ∀b,b<w.heap.size->Ch b-> ¬Im b/\¬obs H ρ b/\(bl b\/w0.w.heap.size<=b)):Inv E w0 bl I0 s H a w' Im ρ:=by
 have hk:Keep Im w w':=fun b hb=>hf.block b (h.gam.im b hb) fun e=>(hc b (h.gam.im b hb) e).1 hb;have hv: ∀v x,VRep w Im ρ (shOf H) v x->VRep w' Im ρ (shOf H) v x:=fun v x hx=>hx.congr hk (fun _ h=>h) (fun q _=>.inr ⟨rfl,rfl⟩);refine⟨⟨fun b hb=>zbg (h.gam.im b hb) hf.size,h.gam.i0,fun p o hp=> ?_,h.gam.dj,fun p o b x y hp hr=>⟨zbg (h.gam.lk p o b x y hp hr).1 hf.size,(h.gam.lk p o b x y hp hr).2⟩,h.gam.imo⟩,
  ⟨hf.os.trans h.fr.os,hf.tape.trans h.fr.tape,hf.output.trans h.fr.output,zby h.fr.size hf.size,fun b hlt hn=> ?_⟩,
  fun t=>hv _ _ (h.sl t),h.nt,h.df.keep hk (fun _ h=>h),fun g c hg=>(h.gl g c hg).keep hk (fun _ h=>h),h.st⟩
 ·refine(h.gam.ob p o hp).congr (fun b x y hr=> ?_) fun j c x _=>hv c x;have hlt:=(h.gam.lk p o b x y hp hr).1;exact hf.block b hlt fun e=>(hc b hlt e).2.1 ⟨p,o,x,y,hp,hr⟩
 ·have hlt':=zbg hlt h.fr.size;exact(hf.block b hlt' fun e=>(hc b hlt' e).2.2.elim hn fun h=>absurd hlt (by omega)).trans (h.fr.block b hlt hn)
theorem Inv.guard(h:Inv E w0 bl I0 s H a w Im ρ){D:Nat}(hD:D<w.heap.size)(h0:w0.w.heap.size<=D)(ho: ¬obs H ρ D):Inv E w0 bl I0 s H a w (fun b=>Im b\/b=D) ρ:=by
 have hv: ∀v x,VRep w Im ρ (shOf H) v x->VRep w (fun b=>Im b\/b=D) ρ (shOf H) v x:=fun v x hx=>hx.congr (fun _ _=>rfl) (fun _ h=>.inl h) (fun q _=>.inr ⟨rfl,rfl⟩);refine⟨⟨fun b hb=>hb.elim (h.gam.im b) fun e=>by rw[e];exact hD,fun b hb=>.inl (h.gam.i0 b hb),fun p o hp=>(h.gam.ob p o hp).congr (fun _ _ _ _=>rfl) fun j c x _=>hv c x,h.gam.dj,
  fun p o b x y hp hr=>⟨(h.gam.lk p o b x y hp hr).1,fun hl=>.inl ((h.gam.lk p o b x y hp hr).2.1 hl),fun hl=>⟨fun e=>e.elim ((h.gam.lk p o b x y hp hr).2.2 hl).1 fun e=>ho ⟨p,o,x,y,hp,by rw[<- e];exact hr⟩,((h.gam.lk p o b x y hp hr).2.2 hl).2⟩⟩,
  fun b hb=>hb.elim (h.gam.imo b) fun e=>.inr (.inr (by rw[e];exact h0))⟩,h.fr,fun t=>hv _ _ (h.sl t),h.nt,h.df.keep (fun _ _=>rfl) (fun _ h=>.inl h),fun g c hg=>(h.gl g c hg).keep (fun _ _=>rfl) (fun _ h=>.inl h),h.st⟩
theorem Inv.freeze(h:Inv E w0 bl I0 s H a w Im ρ){Fz:Nat->Prop}(hF: ∀b,Fz b->b<w.heap.size/\¬chg H ρ b/\(I0 b\/bl b\/w0.w.heap.size<=b)):Inv E w0 bl I0 s H a w (fun b=>Im b\/Fz b) ρ:=by
 have hv: ∀v x,VRep w Im ρ (shOf H) v x->VRep w (fun b=>Im b\/Fz b) ρ (shOf H) v x:=fun v x hx=>hx.congr (fun _ _=>rfl) (fun _ h=>.inl h) (fun q _=>.inr ⟨rfl,rfl⟩);refine⟨⟨fun b hb=>hb.elim (h.gam.im b) fun e=>(hF b e).1,fun b hb=>.inl (h.gam.i0 b hb),fun p o hp=>(h.gam.ob p o hp).congr (fun _ _ _ _=>rfl) fun j c x _=>hv c x,h.gam.dj,
  fun p o b x y hp hr=>⟨(h.gam.lk p o b x y hp hr).1,fun hl=>.inl ((h.gam.lk p o b x y hp hr).2.1 hl),fun hl=>⟨fun e=>e.elim ((h.gam.lk p o b x y hp hr).2.2 hl).1 fun e=>(hF b e).2.1 ⟨p,o,x,y,hp,hl,hr⟩,((h.gam.lk p o b x y hp hr).2.2 hl).2⟩⟩,
  fun b hb=>hb.elim (h.gam.imo b) fun e=>(hF b e).2.2⟩,h.fr,fun t=>hv _ _ (h.sl t),h.nt,h.df.keep (fun _ _=>rfl) (fun _ h=>.inl h),fun g c hg=>(h.gl g c hg).keep (fun _ _=>rfl) (fun _ h=>.inl h),h.st⟩
theorem Inv.rebase(h:Inv E w0 bl I0 s H a w Im ρ)(tmps:Array Value){s':List (Nat×V)}(hnt:tmps.size=E.nt)(hs: ∀t,VRep w Im ρ (shOf H) (getV s' t) (tmps.getD t undef)):
  Inv E ⟨w,fun j=>(qaj H j).map fun o=>(shp o,ρ j),[]⟩ (chg H ρ) Im s' H ⟨tmps,[]⟩ w Im ρ:=by
 refine⟨⟨h.gam.im,fun _ hb=>hb,h.gam.ob,h.gam.dj,fun p o b x y hp hr=>⟨(h.gam.lk p o b x y hp hr).1,(h.gam.lk p o b x y hp hr).2.1,fun hl=>⟨((h.gam.lk p o b x y hp hr).2.2 hl).1,.inl ⟨p,o,x,y,hp,hl,hr⟩⟩⟩,fun b hb=>.inl hb⟩,
  .refl _ _,hs,hnt,⟨[],rfl,by simp,by simp,fun _=>rfl⟩,h.gl,fun j o _ hj=>by simp only[hj,zap]⟩
theorem qr8(h:Inv E w0 bl I0 s H a w Im ρ){b:Nat}(hb:chg H ρ b): ¬Im b/\b<w.heap.size/\(bl b\/w0.w.heap.size<=b):=by obtain⟨p,o,x,y,h1,h2,h3⟩:=hb;have:=h.gam.lk p o b x y h1 h3;exact⟨(this.2.2 h2).1,this.1,(this.2.2 h2).2⟩
theorem Inv.unbase{E':Env}{s' s2:List (Nat×V)}{H':Heap}{a' a2:Act}{Im':Nat->Prop}{ρ':Nat->Loc}(h:Inv E w0 bl I0 s H a w Im ρ)(h':Inv E ⟨w,fun j=>(qaj H j).map fun o=>(shp o,ρ j),[]⟩ (chg H ρ) Im s' H' a' w' Im' ρ')(ha:a2.tmps.size=E.nt)(hh:Held E w0.df w0.w.heap.size a2 w' Im')(hs: ∀t,VRep w' Im' ρ' (shOf H') (getV s2 t) (a2.tmps.getD t undef)):Inv E w0 bl I0 s2 H' a2 w' Im' ρ':=by
 have hc: ∀b,chg H ρ b->bl b\/w0.w.heap.size<=b:=fun b hb=>(qr8 h hb).2.2;refine⟨⟨h'.gam.im,fun b hb=>h'.gam.i0 b (h.gam.i0 b hb),h'.gam.ob,h'.gam.dj,fun p o b x y hp hr=>⟨(h'.gam.lk p o b x y hp hr).1,(h'.gam.lk p o b x y hp hr).2.1,fun hl=>⟨((h'.gam.lk p o b x y hp hr).2.2 hl).1, ?_⟩⟩,fun b hb=> ?_⟩,
  h.fr.trans h'.fr hc,hs,ha,hh,h'.gl,fun j o hj hg=> ?_⟩
 ·rcases((h'.gam.lk p o b x y hp hr).2.2 hl).2 with e|e
  ·exact hc b e
  ·exact .inr (zby h.fr.size e)
 ·rcases h'.gam.imo b hb with e|e|e
  ·exact h.gam.imo b e
  ·exact .inr (hc b e)
  ·exact .inr (.inr (zby h.fr.size e))
 ·have h1:=h'.st j o hj hg;have h1:(qaj H j).map (fun o=>(shp o,ρ j))=some (shp o,ρ' j):=h1;obtain⟨o1,g1,g2⟩:=zaq.1 h1;rw[h.st j o1 hj g1, <- g2]
theorem xbme{s':List (Nat×V)}{H':Heap}{a':Act}{Im':Nat->Prop}{ρ':Nat->Loc}(h:Inv E w0 bl I0 s H a w Im ρ)(h':Inv E ⟨w,fun j=>(qaj H j).map fun o=>(shp o,ρ j),[]⟩ (chg H ρ) Im s' H' a' w' Im' ρ'){v:V}{x:Value}(hl:lowV v=true)(hx:VRep w Im ρ (shOf H) v x):VRep w' Im' ρ' (shOf H') v x:=by
 have hk:Keep Im w w':=fun b hb=>h'.fr.block b (h.gam.im b hb) fun e=>(qr8 h e).1 hb;refine hx.congr hk h'.gam.i0 fun q hq=> ?_;have hq32:q<32:=by cases v<;>simp[lowV,qdj,zb9] at hl hq;subst hq;exact hl
 cases hg:qaj H' q with
 | none=>left;simp[shOf,hg]
 | some o=>
  right;have h1:(qaj H q).map (fun o=>(shp o,ρ q))=some (shp o,ρ' q):=h'.st q o hq32 hg;obtain⟨o1,g1,g2⟩:=zaq.1 h1;simp only[zbb] at g2;exact⟨by simp[shOf,hg,g1,g2.1],g2.2.symm⟩
theorem qu3: ∀(s:List (Nat×V)) (t:Nat),lowV (getV (lowS s) t)=true/\getV (lowS s) t=getV s t\/getV (lowS s) t=.undef
 | [],t=>.inr rfl
 | (u,v)::r,t=>by
  simp only[lowS];have ih:=qu3 r t
  cases hl:lowV v with
  | true=>
   simp only[cond_true]
   cases hb:Nat.beq u t with
   | true=>
    have e: ∀q:List (Nat×V),getV ((u,v)::q) t=v:=fun q=>by simp only[getV,qaj,hb,cond_true]
    rw[e,e];exact .inl ⟨hl,rfl⟩
   | false=>
    have e: ∀q:List (Nat×V),getV ((u,v)::q) t=getV q t:=fun q=>by simp only[getV,qaj,hb,cond_false]
    rw[e,e];exact ih
  | false=>
   simp only[cond_false];have e:getV (qw9 (lowS r) u) t=if t=u then .undef else getV (lowS r) t:=by simp only[getV,qb4];by_cases h:t=u<;>simp[h]
   rw[e]
   cases hb:Nat.beq u t with
   | true=>rw[if_pos (qag.1 hb).symm];exact .inr rfl
   | false=>
    rw[if_neg fun h=>qa7 hb h.symm];have e:getV ((u,v)::r) t=getV r t:=by simp only[getV,qaj,hb,cond_false]
    rw[e];exact ih
theorem Inv.mapB{s':List (Nat×V)}{H':Heap}{ρ':Nat->Loc}{an:Nat->Option (Sh×Loc)}(h:Inv E w0 bl I0 s H a w Im ρ){f:Nat->Nat}{g:V->V}{Bad:Nat->Prop}(hgc: ∀c,g (.cl c)=.cl c)(hg: ∀c,g c=.undef\/(g c=renV f c/\∀m,qdj m c=true-> ¬Bad m))(hs: ∀t,getV s' t=.undef\/getV s' t=g (getV s t))(hH: ∀q o',qaj H' q=some o'->∃p o,qaj H p=some o/\f p=q/\ρ' q=ρ p/\o'= {o with row:=qpe g o.row})(hb: ∀m, ¬Bad m->shOf H' (f m)=none\/(shOf H' (f m)=shOf H m/\ρ' (f m)=ρ m))(hst: ∀j o,j<32->qaj H' j=some o->an j=some (shp o,ρ' j)):Inv E ⟨w0.w,an,w0.df⟩ bl I0 s' H' a w Im ρ':=by
 refine⟨h.gam.map hgc hg hH hb,h.fr,fun t=> ?_,h.nt,h.df,h.gl,hst⟩;rcases hs t with e|e
 ·rw[e];exact .undef _
 ·rw[e];exact q3x hg hb _ _ (h.sl t)
def OnT(E:Env)(w0:Base)(bl I0:Nat->Prop)(T:List Nat)(σ:St)(a:Act)(w:World):Prop:= ∃an,(∀j,j<32->j∉T->∀z,an j=some z->w0.an j=some z)/\On E ⟨w0.w,an,w0.df⟩ bl I0 σ a w
theorem OnT.mono{T T':List Nat}{σ:St}(h:OnT E w0 bl I0 T σ a w)(hT: ∀j∈T,j∈T'):OnT E w0 bl I0 T' σ a w:=
 let ⟨an,h1,h2⟩:=h;⟨an,fun j hj hn=>h1 j hj fun e=>hn (hT j e),h2⟩
theorem OnT.renameLow{T:List Nat}{σ:St}(h:OnT E w0 bl I0 T σ a w)(p q:Nat):OnT E w0 bl I0 (q::T) (rename p q σ) a w:=by
 obtain⟨an0,han,Im,ρ,h⟩:=h;have hone: ∀x,one2 p q x=if x=p then q else x:=fun x=>by
  unfold one2
  cases hb:Nat.beq x p with
  | true=>simp[qag.1 hb]
  | false=>simp[qa7 hb]
 have hget: ∀(x:Nat) (o':Obj),qaj (YtoiikagnjcjccaaGreatDoorA.rename p q σ).heap x=some o'->∃p' o,qaj σ.heap p'=some o/\p'≠q/\one2 p q p'=x/\o'= {o with row:=qpe (fun c=>renV (one2 p q) (cond (qdj q c) .undef c)) o.row}:=fun x o' hx=>by
  obtain⟨p',o,h1,h2,h3⟩:=qhx _ _ _ _ hx;change qaj (q6w q σ.heap) p'=some o at h1;rw[qe0] at h1;split at h1
  ·cases h1
  ·rename_i hne;obtain⟨u,hu,rfl⟩:=zaq.1 h1;refine⟨p',u,hu,hne,h2, ?_⟩;rw[h3];obtain⟨row,lock⟩:=u;cases row<;>simp[q6x,qgu,qpe,q1n,zdh]
 have hsrc: ∀p' x,p'≠q->one2 p q p'=x->(x=q/\p'=p)\/(x≠q/\p'=x):=fun p' x hne hx=>by
  rw[hone] at hx;split at hx
  ·rename_i e;exact .inl ⟨hx.symm,e⟩
  ·exact .inr ⟨by rw[<- hx];exact hne,hx⟩
 refine⟨fun j=>(qaj (YtoiikagnjcjccaaGreatDoorA.rename p q σ).heap j).map fun o=>(shp o,if j=q then ρ p else ρ j),fun j hj hn z hz=> ?_,Im,fun x=>if x=q then ρ p else ρ x,
  h.mapB (f:=one2 p q) (g:=fun c=>renV (one2 p q) (cond (qdj q c) .undef c)) (Bad:=fun m=>m=q) (fun c=>rfl) (fun c=> ?_) (fun t=>.inr ?_) (fun x o' hx=> ?_) (fun m hm=> ?_) fun j o _ hj=>by simp only[hj,zap]⟩
 ·simp only[zas,not_or] at hn;obtain⟨o',hx,rfl⟩:=zaq.1 hz;obtain⟨p',o,h1,h2,h3,h4⟩:=hget j o' hx;rcases hsrc p' j h2 h3 with⟨e1,e2⟩|⟨e1,e2⟩
  ·exact absurd e1 hn.1
  ·subst e2;have:=h.st p' o hj h1;rw[h4,qfq,if_neg e1];exact han p' hj hn.2 _ this
 ·cases hb:qdj q c with
  | true=>left;rfl
  | false=>right;exact⟨rfl,fun m hm e=>by subst e;rw[hb] at hm;cases hm⟩
 ·show getV (renS (one2 p q) (xbl7 q σ.slots)) t=_;rw[qu4,qh6]
 ·obtain⟨p',o,h1,h2,h3,h4⟩:=hget x o' hx;refine⟨p',o,h1,h3, ?_,h4⟩;rcases hsrc p' x h2 h3 with⟨e1,e2⟩|⟨e1,e2⟩
  ·rw[if_pos e1,e2]
  ·rw[if_neg e1,e2]
 ·cases hx:qaj (YtoiikagnjcjccaaGreatDoorA.rename p q σ).heap (one2 p q m) with
  | none=>left;simp[shOf,hx]
  | some o'=>
   right;obtain⟨p',o,h1,h2,h3,h4⟩:=hget _ o' hx;have hpm:p'=m:=by
    rcases hsrc p' _ h2 h3 with⟨e1,e2⟩|⟨e1,e2⟩
    ·rcases hsrc m _ hm rfl with⟨e3,e4⟩|⟨e3,e4⟩
     ·rw[e2,e4]
     ·exact absurd e1 e3
    ·rcases hsrc m _ hm rfl with⟨e3,e4⟩|⟨e3,e4⟩
     ·exact absurd e3 e1
     ·rw[e2, <- e4]
   subst hpm;refine⟨?_, ?_⟩
   ·simp only[shOf,hx,h1,zap,h4];rw[qfq]
   ·show(if one2 p q p'=q then ρ p else ρ (one2 p q p'))=ρ p';rcases hsrc p' _ h2 rfl with⟨e1,e2⟩|⟨e1,e2⟩
    ·rw[if_pos e1,e2]
    ·rw[if_neg e1, <- e2]
theorem OnT.lowAll: ∀(l:List (Nat×Nat)) {T:List Nat} {σ:St},OnT E w0 bl I0 T σ a w->OnT E w0 bl I0 (l.map (·.2)++T) (lowAll l σ) a w
 | [],T,σ,h=>h
 | (p,q)::r,T,σ,h=>by
  simp only[YtoiikagnjcjccaaGreatDoorA.lowAll];refine(OnT.lowAll r (h.renameLow p q)).mono fun j hj=> ?_;simp only[zbr,zak,zas] at hj ⊢;rcases hj with hj|hj|hj
  ·exact .inl (.inr hj)
  ·exact .inl (.inl hj)
  ·exact .inr hj
theorem On.vacAll: ∀(l:List Nat) {σ:St},On E w0 bl I0 σ a w->On E w0 bl I0 (vacAll l σ) a w
 | [],σ,h=>h
 | p::r,σ,h=>On.vacAll r (On.vacate h p)
theorem On.lowS{σ:St}(h:On E w0 bl I0 σ a w):On E w0 bl I0 ⟨lowS σ.slots,σ.heap⟩ a w:=by obtain⟨Im,ρ,h⟩:=h;refine⟨Im,ρ,h.map (f:=fun p=>p) (g:=fun c=>c) (Bad:=fun _=>False) (fun c=>rfl) (fun c=>.inr ⟨(qkm c).symm,fun _ _ h=>h⟩) (fun t=>(qu3 σ.slots t).elim (fun h=>.inr h.2) .inl) (fun x o' hx=> ?_) fun x _=>.inr ⟨rfl,rfl⟩⟩;refine⟨x,o',hx,rfl,rfl, ?_,fun _=>rfl⟩;obtain⟨row,lock⟩:=o';cases row<;>simp[qpe]
theorem On.high{an:Nat->Option (Sh×Loc)}{T:List Nat}{σ:St}(h:On E ⟨w0.w,an,w0.df⟩ bl I0 σ a w)(han: ∀j,j<32->j∉T->∀z,an j=some z->w0.an j=some z)(hT: ∀j∈T,qaj σ.heap j=none):On E w0 bl I0 σ a w:=by obtain⟨Im,ρ,h⟩:=h;refine⟨Im,ρ,h.gam,h.fr,h.sl,h.nt,h.df,h.gl,fun j o hj hg=>han j hj (fun e=> ?_) _ (h.st j o hj hg)⟩;rw[hT j e] at hg;cases hg
def xbes(W:World)(Fz:Nat->Prop)(x:List CV)(vs:List Value):Prop:=vs.length=x.length/\∀(j:Nat) (c:CV) (v:Value),x[j]? =some c->vs[j]? =some v->CRep W Fz c v
theorem xbes.mono{W:World}{Fz Fz':Nat->Prop}{x:List CV}{vs:List Value}(h:xbes W Fz x vs)(hm: ∀b,Fz b->Fz' b):xbes W Fz' x vs:=⟨h.1,fun j c v hj hv=>(h.2 j c v hj hv).keep (fun _ _=>rfl) hm⟩
def xbu0(P:Program)(glob:Nat->Option CV)(gf:FuncId)(as:List V)(objs:List Obj)(xs:List (List CV)):Prop:=
 ∀(w:World) (Im:Nat->Prop) (ρ:Nat->Loc) (bl:Nat->Prop) (vs:List Value),Pre glob w Im ρ bl as objs vs->
 ∀(l:Nat) (J:List (List CV)->(Nat->Prop)->(Nat->Prop)->World->Prop) (Jx:(Nat->Prop)->(Nat->Prop)->World->Prop),
  (∀r O C W W' Ch,J r O C W->Fr W Ch W'->(∀b,Ch b-> ¬O b)->J r O C W')->(∀O C W W' Ch,Jx O C W->Fr W Ch W'->(∀b,Ch b-> ¬O b)->Jx O C W')->
  (∀r O C W,J r O C W->(∀b,O b->b<W.heap.size)/\∀b,C b->O b)->(∀O C W,Jx O C W->(∀b,O b->b<W.heap.size)/\∀b,C b->O b)->
  (∀x r O C W Fz vs,J (x::r) O C W->(∀b,Fz b->b<W.heap.size/\¬C b/\(Im b\/bl b\/w.heap.size<=b))->xbes W Fz x vs->YieldAt Fence.wide 0 P l vs.toArray W fun e W'=> ∃O' C',Fr W C W'/\(∀b,O' b->O b\/Fz b\/W.heap.size<=b)/\(∀b,C' b->C b\/W.heap.size<=b)/\
   ((e=.returned (.bool true)/\J r O' C' W')\/(e=.returned (.bool false)/\Jx O' C' W')))->
  ∀O C,J xs O C w->(∀b,C b-> ¬Im b/\¬bl b)->(∀b,O b-> ¬bl b)->
  CallsIn Fence.wide 0 P gf (#[.func (.yield l) #[] #[]]++vs.toArray) w fun e W'=>(∃v,e=.returned v)/\∃O' C',J [] O' C' W'\/Jx O' C' W'
def qfr(P:Program)(E:Env):Prop:= ∀gf as objs xs,E.pre gf as objs=true->E.sq gf as objs=some xs->xbu0 P E.glob gf as objs xs/\(∃fn,P.funcs[gf]? =some fn/\fn.body.isSome=true/\(fn.name== "runtime.NumGoroutine")=false)
end
def Meet:Ex->Exit->World->(Nat->Prop)->Prop
 | .normal,.normal,_,_=>True
 | .exit i,.exit j,_,_=>i=j
 | .ret,.ret,_,_=>True
 | .pan c,.panic ch,w,Im=> ∃x,ch=[{v:=x,recovered:=false}]/\CRep w Im c x
 | _,_,_,_=>False
def Lands(E:Env)(w0:Base)(bl I0:Nat->Prop){β:Type}(k:Ex->St->Option β)(r:β)(e:Exit)(a:Act)(w:World):Prop:=
 ∃ex σ Im ρ,k ex σ=some r/\Inv E w0 bl I0 σ.slots σ.heap a w Im ρ/\Meet ex e w Im
section
variable {P:Program} {β:Type} {E:Env} {w0:Base} {bl I0:Nat->Prop}
theorem Inv.skipped{s:List (Nat×V)}{H:Heap}{a:Act}{w:World}{Im:Nat->Prop}{ρ:Nat->Loc}(h:Inv E w0 bl I0 s H a w Im ρ)(d:Option Tmp):Inv E w0 bl I0 (setD s d (.tup [])) H (a.put d undef) w Im ρ:=by
 refine⟨h.gam,h.fr,fun t=> ?_, ?_, ?_,h.gl,h.st⟩
 ·rw[qdx];split
  ·rename_i he;have:(a.put d undef).tmps.getD t undef=undef:=by subst he;simp only[Act.put];rw[zaz,zb0];by_cases ht:t<a.tmps.size<;>simp[ht]
   rw[this];exact .tup [] [] rfl (by simp)
  ·rename_i hne
   cases d with
   | none=>simpa [Act.put] using h.sl t
   | some d=>
    have e: ¬d=t:=fun h=>hne (by rw[h]);have:=h.sl t;simp only[Act.put];rw[zaz,zb0];rw[zaz] at this;simpa [e] using this
 ·cases d<;>simp[Act.put,h.nt]
 ·cases d<;>exact h.df
theorem q7c{s:List (Nat×V)}{H:Heap}{a:Act}{w:World}{Im:Nat->Prop}{ρ:Nat->Loc}{o:Op}{f:List (Nat×V)->Option β}{r:β}(h:xbjv E s o f=some r)(hI:Inv E w0 bl I0 s H a w Im ρ):
  ∃s',f s'=some r/\Inv E w0 bl I0 s' H a w Im ρ:=by
 unfold xbjv at h;split at h
 ·obtain⟨b,s',h1,h2,_⟩:=qga h hI;exact⟨s',h1,h2⟩
 ·split at h
  ·split at h
   ·obtain⟨b,s',h1,h2,_⟩:=qga h hI;exact⟨s',h1,h2⟩
   ·exact⟨s,h,hI⟩
  ·exact⟨s,h,hI⟩
 ·exact⟨s,h,hI⟩
theorem qr0{ops:Array Oper}{tmps:Array Value}{j d:Nat}{b:Bool}(hd:(ops[j]?).bind (·.dst)=some d)(hv:tmps.getD d undef=.bool b):yielded ops tmps j=some b:=by
 have:tmps[d]? =some (.bool b):=by
  rw[zaz] at hv
  cases h:tmps[d]? with
  | none=>rw[h] at hv;cases hv
  | some x=>rw[h] at hv;simpa using hv
 simp[yielded,hd,this]
theorem q80{x y:Option β}{r:β}(h:xbli x y=some r):x=some r/\y=some r:=by
 unfold xbli at h;by_cases e:x=y
 ·rw[if_pos e] at h;exact⟨h,e▸h⟩
 ·rw[if_neg e] at h;cases h
theorem q1x{w:World}{Im:Nat->Prop}{ρ:Nat->Loc}{S:Nat->Option Sh}{v:V}{x:Value}{n:Option Nat}(h:qep v=some n)(hx:VRep w Im ρ S v x):
  ∃a len cap,x=.slice a len cap/\(n=none->a=none)/\∀m,n=some m->a=none->m=0:=by
 cases hx with
 | nils=>simp[qep] at h;subst h;exact⟨none,0,0,rfl,fun _=>rfl,fun m hm=>by cases hm⟩
 | cl c _ hc=>
  cases hc with
  | sli k l a len cap h1 h2 h3=>
   simp[qep] at h;subst h;refine⟨a,len,cap,rfl,fun hn=>(by cases hn),fun m hm ha=> ?_⟩;simp only[zaa] at hm;subst hm ha
   cases l with
   | nil=>rfl
   | cons z r=>
    obtain⟨ad,e,_⟩:=h3 0 z rfl;cases e
  | slg e l a len cap f h1 h2 h3 h4 h5 h6=>
   simp only[qep] at h
   cases he:Nat.beq e 0 with
   | true=>rw[he] at h;cases h
   | false=>
    rw[he] at h;simp only[cond_false,zaa] at h;subst h;refine⟨a,len,cap,rfl,fun hn=>(by cases hn),fun m hm ha=> ?_⟩;simp only[zaa] at hm;subst hm ha
    cases l with
    | nil=>rfl
    | cons z r=>
     have hz:=h1 z (by simp)
     cases hc1:cell1 z with
     | nil=>rw[hc1] at hz;exact absurd hz.symm (qa7 he)
     | cons d ds=>
      obtain⟨ad,e',_⟩:=h4 0 d (by simp[hc1]);cases e'
  | _=>simp[qep] at h
 | refN p o len tip e a cap h1 h2 h3=>
  simp[qep] at h;subst h;refine⟨a,len,cap,rfl,fun hn=>(by cases hn),fun m hm ha=> ?_⟩;simp only[zaa] at hm;subst hm ha;by_cases hl:len=0
  ·exact hl
  ·have:=h3 hl;cases this
 | refV p s tip e h1 h2 h3 h4=>
  simp[qep] at h;subst h;exact⟨none,0,0,rfl,fun hn=>(by cases hn),fun m hm _=>by cases hm;rfl⟩
 | ref p o len tip e s b base lim ad cap h1 h2 h3 h4 h5 h6 h7 h8=>
  simp[qep] at h;subst h;exact⟨some ad,len,cap,rfl,fun hn=>(by cases hn),fun m hm ha=>by cases ha⟩
 | _=>simp[qep] at h
theorem q69{P:Program}{E:Env}{s:List (Nat×V)}{H:Heap}{a:Act}{w:World}{Im:Nat->Prop}{ρ:Nat->Loc}{o:Oper}{neg:Bool}{n:Option Nat}(h:q30 P E s o.op=some (neg,n))(hI:Inv E w0 bl I0 s H a w Im ρ):
  ∃b:Bool,(execOp a.eval o).run P w=.ok (.value (.bool (cond neg (!b) b))) w/\(n=none->b=true)/\∀m,n=some m->b=true->m=0:=by
 have key: ∀(t:TypeId) (x:Operand) (neg:Bool),(match kd P t with|.slice _=>(qep (opd E s x)).map fun n=>(neg,n)|_=>none)=some (neg,n)->
   ∃b:Bool,(Op.equal t (a.eval x) (.slice none 0 0)).run P w=.ok b w/\(∃ad len cap,a.eval x=.slice ad len cap)/\(n=none->b=true)/\∀m,n=some m->b=true->m=0:=fun t x neg h=>by
  split at h
  ·rename_i e hk;obtain⟨n',hn,he⟩:=zaq.1 h;simp only[zbb,true_and] at he;subst he;obtain⟨ad,len,cap,hx,h1,h2⟩:=q1x hn (hI.opd x);have hu:=qcd hk;refine⟨ad.isNone, ?_,⟨ad,len,cap,hx⟩,fun hn=>by rw[h1 hn];rfl,fun m hm hb=>h2 m hm (by simpa using hb)⟩;rw[hx];have e: ∀d:Nat,(Op.equalIn (d+1) t (.slice ad len cap) (.slice none 0 0)).run P w=.ok ad.isNone w:=fun d=>by cases ad<;>simp[Op.equalIn,underlying,hu]
   exact e 9999
  ·cases h
 have key2: ∀(t:TypeId) (x:Operand) (neg:Bool),(match P.underlying t with|some (.interface _)=>(qu6 (opd E s x)).map fun n=>(neg,n)|_=>none)=some (neg,n)->
   ∃b:Bool,(Op.equal t (a.eval x) .nilIface).run P w=.ok b w/\(a.eval x=.nilIface\/∃ty v,a.eval x=.iface ty v)/\(n=none->b=true)/\∀m,n=some m->b=true->m=0:=fun t x neg h=>by
  split at h
  ·rename_i ms hu;obtain⟨n',hn,he⟩:=zaq.1 h;simp only[zbb,true_and] at he;subst he;have e0: ∀d:Nat,(Op.equalIn (d+1) t .nilIface .nilIface).run P w=.ok true w:=fun d=>by simp[Op.equalIn,underlying,hu]
   have e1: ∀(d:Nat) (ty:TypeId) (v:Value),(Op.equalIn (d+1) t (.iface ty v) .nilIface).run P w=.ok false w:=fun d ty v=>by simp[Op.equalIn,underlying,hu]
   have hv:=hI.opd x;generalize opd E s x=vx at hv hn;generalize a.eval x=ax at hv ⊢;unfold qu6 at hn;split at hn
   ·have:=hv.closed;cases this;simp only[zaa] at hn;subst hn;exact⟨true,e0 9999,.inl rfl,fun _=>rfl,fun m hm=>by cases hm⟩
   ·have:=hv.closed;cases this;simp only[zaa] at hn;subst hn;exact⟨false,e1 9999 _ _,.inr ⟨_,_,rfl⟩,fun hm=>(by cases hm),fun m _ hb=>(by cases hb)⟩
   ·cases hv;simp only[zaa] at hn;subst hn;exact⟨false,e1 9999 _ _,.inr ⟨_,_,rfl⟩,fun hm=>(by cases hm),fun m _ hb=>(by cases hb)⟩
   ·cases hn
  ·cases h
 unfold q30 at h;split at h
 ·rename_i t x yt hop;have hneg:neg=false:=by
   split at h
   ·obtain⟨n',_,he⟩:=zaq.1 h;simp only[zbb] at he;exact he.1.symm
   ·cases h
  subst hneg;obtain⟨b,h1,⟨ad,len,cap,hx⟩,h2,h3⟩:=key t x false h;refine⟨b, ?_,h2,h3⟩;unfold execOp;simp only[hop];rw[hx] at h1 ⊢;have:a.eval (.const (.slice none 0 0))=.slice none 0 0:=rfl;rw[this,eqGuard_at_slice];simp[binOp,h1]
 ·rename_i t x yt hop;have hneg:neg=true:=by
   split at h
   ·obtain⟨n',_,he⟩:=zaq.1 h;simp only[zbb] at he;exact he.1.symm
   ·cases h
  subst hneg;obtain⟨b,h1,⟨ad,len,cap,hx⟩,h2,h3⟩:=key t x true h;refine⟨b, ?_,h2,h3⟩;unfold execOp;simp only[hop];rw[hx] at h1 ⊢;have:a.eval (.const (.slice none 0 0))=.slice none 0 0:=rfl;rw[this,eqGuard_at_slice];simp[binOp,h1]
 ·rename_i t x yt hop;have hneg:neg=false:=by
   split at h
   ·obtain⟨n',_,he⟩:=zaq.1 h;simp only[zbb] at he;exact he.1.symm
   ·cases h
  subst hneg;obtain⟨b,h1,hx,h2,h3⟩:=key2 t x false h;refine⟨b, ?_,h2,h3⟩;unfold execOp;simp only[hop];have:a.eval (.const .nilIface)=.nilIface:=rfl;rw[this];rcases hx with hx|⟨ty,v,hx⟩
  ·rw[hx] at h1 ⊢;simp[binOp,h1,eqGuard]
  ·rw[hx] at h1 ⊢;rw[eqGuard_at_iface];simp[binOp,h1]
 ·rename_i t x yt hop;have hneg:neg=true:=by
   split at h
   ·obtain⟨n',_,he⟩:=zaq.1 h;simp only[zbb] at he;exact he.1.symm
   ·cases h
  subst hneg;obtain⟨b,h1,hx,h2,h3⟩:=key2 t x true h;refine⟨b, ?_,h2,h3⟩;unfold execOp;simp only[hop];have:a.eval (.const .nilIface)=.nilIface:=rfl;rw[this];rcases hx with hx|⟨ty,v,hx⟩
  ·rw[hx] at h1 ⊢;simp[binOp,h1,eqGuard]
  ·rw[hx] at h1 ⊢;rw[eqGuard_at_iface];simp[binOp,h1]
 ·cases h
theorem xbf6{n:Option Nat}{f:Bool->Option β}{r:β}(h:nilK n f=some r){b:Bool}(h1:n=none->b=true)(h2: ∀m,n=some m->b=true->m=0):f b=some r:=by
 unfold nilK at h;split at h
 ·rw[h1 rfl];exact h
 ·rename_i m
  cases hm:Nat.beq m 0 with
  | true=>
   rw[hm] at h;simp only[cond_true] at h;obtain⟨g1,g2⟩:=q80 h;cases b
   ·exact g2
   ·exact g1
  | false=>
   rw[hm] at h;simp only[cond_false] at h;cases b
   ·exact h
   ·exact absurd (h2 m rfl rfl) (qa7 hm)
theorem q03{s:List (Nat×V)}{H:Heap}{a:Act}{w:World}{Im:Nat->Prop}{ρ:Nat->Loc}{d:Nat}{want:Bool}{go skip:List (Nat×V)->Option β}{r:β}(h:q6t s d want go skip=some r)(hI:Inv E w0 bl I0 s H a w Im ρ):
  ∃s',Inv E w0 bl I0 s' H a w Im ρ/\((go s'=some r/\a.tmps.getD d undef=.bool want)\/(skip s'=some r/\∀b,a.tmps.getD d undef=.bool b->b≠want)):=by
 unfold q6t at h;split at h
 ·rename_i hd;refine⟨s,hI,.inr ⟨h,fun b hb=> ?_⟩⟩;have:=hI.sl d;rw[hd,hb] at this;cases this
 ·obtain⟨b,s',h1,h2,h3⟩:=qga h hI;refine⟨s',h2, ?_⟩;cases b<;>cases want<;>simp only at h1
  ·exact .inl ⟨h1,h3⟩
  ·exact .inr ⟨h1,fun b hb=>by rw[h3] at hb;cases hb;simp⟩
  ·exact .inr ⟨h1,fun b hb=>by rw[h3] at hb;cases hb;simp⟩
  ·exact .inl ⟨h1,h3⟩
theorem qs1{ops:Array Oper}{tmps:Array Value}{j d:Nat}{want:Bool}(hd:(ops[j]?).bind (·.dst)=some d)(hv: ∀b,tmps.getD d undef=.bool b->b≠want):(yielded ops tmps j==some want)=false:=by
 unfold yielded;rw[hd,zag];rw[zaz] at hv;split
 ·rename_i b hb;have:=hv b (by rw[hb];rfl);cases b<;>cases want<;>simp_all
 ·rfl
theorem q1z{w:World}{Im:Nat->Prop}{ρ:Nat->Loc}{S:Nat->Option Sh}{b:Bool}{v:V}{x:Value}{f:V->Option β}{r:β}(h:xbg9 b v f=some r)(hv:VRep w Im ρ S v x): ∃v',f v'=some r/\VRep w Im ρ S v' x:=by
 unfold xbg9 at h
 cases b with
 | false=>exact⟨v,h,hv⟩
 | true=>
  simp only[cond_true] at h;split at h
  ·rename_i c
   cases c with
   | true=>exact⟨_,h,hv⟩
   | false=>exact⟨_,h,hv⟩
  ·exact⟨_,h,hv⟩
theorem xbdi{w:World}{Im:Nat->Prop}{ρ:Nat->Loc}{S:Nat->Option Sh}{o:Op}{v:V}{x:Value}(h:VRep w Im ρ S v x):VRep w Im ρ S (xbhb o v) x:=by
 unfold xbhb;split
 ·unfold xbui;split
  ·cases h.closed with
   | is c v _ h=>exact .cl _ _ h
  ·exact h
 ·exact h
theorem qdb(hE: ∀g,Sound P E.glob g (ctr E g)){ops:Array Oper}{Q:Exit->Act->World->Prop}{k:Ex->St->Option β}{r:β}(hQ: ∀e a w,Lands E w0 bl I0 k r e a w->Q e a w):
  ∀(l:List Oper) (σ:St) (a:Act) (w:World),opsK P E ops l σ k=some r->On E w0 bl I0 σ a w->wpList P ops Q l a w
 | [],σ,a,w,h,⟨Im,ρ,hI⟩=>hQ _ _ _ ⟨.normal,σ,Im,ρ,h,hI,trivial⟩
 | o::rest,σ,a,w,h,⟨Im,ρ,hI⟩=>by
  have go: ∀s,Inv E w0 bl I0 s σ.heap a w Im ρ->(xbjv E s o.op fun s=>match q30 P E s o.op with
   | some (neg,n)=>cond (xbek E o) (nilK n fun b=>opsK P E ops rest ⟨setD s o.dst (.cl (.bool (cond neg (!b) b))),σ.heap⟩ k) none
   | none=>cond (xbem s σ.heap (makes E o)&&xbek E o) (
    cond (E.ak (qmr o)) (akK P E s σ.heap o fun v u=>opsK P E ops rest ⟨setD s o.dst v,updH σ.heap u⟩ k)
    (opK P E s σ.heap o (fun v u=>xbg9 (xbud E o.dst) (xbhb o.op v) fun v=>opsK P E ops rest ⟨setD s o.dst v,updH σ.heap u⟩ k) (fun c u=>k (.pan c) ⟨s,updH σ.heap u⟩))) none)=some r->o.wp P a w (wpList P ops Q rest) Q:=fun s hs hgo=>by
   obtain⟨s',h1,h2⟩:=q7c hgo hs;split at h1
   ·rename_i neg n hnt;obtain⟨hd,h1⟩:=qaa h1;obtain⟨b,g1,g2,g3⟩:=q69 hnt h2;have hd: ∀t,o.dst=some t->t<E.nt:=fun t ht=>by simp only[xbek,ht] at hd;simpa [zb9] using hd
    exact qf3 g1 (qdb hE hQ rest _ _ _ (xbf6 h1 g2 g3) ⟨Im,ρ,h2.put hd (.ofBool _)⟩)
   replace h1:=qaa h1;obtain⟨hc,h1⟩:=h1;simp only[zab] at hc;have hd: ∀t,o.dst=some t->t<E.nt:=fun t ht=>by have:=hc.2;simp only[xbek,ht] at this;simpa [zb9] using this
   cases hak:E.ak (qmr o) with
   | true=>
    rw[hak,cond_true] at h1;exact xbeu h1 h2 (fun p hp=>qgc hc.1 p hp) fun v u x w' Im' ρ' hk hI' hv'=>qdb hE hQ rest _ _ _ hk ⟨Im',ρ',hI'.put hd hv'⟩
   | false=>
   rw[hak,cond_false] at h1;refine qv0 hE h1 h2 (fun p hp=>qgc hc.1 p hp) (fun v u x w' Im' ρ' hk hI' hv'=> ?_) fun c u x w' Im' ρ' hk hI' hc'=> ?_
   ·obtain⟨v',hk,hv'⟩:=q1z hk (xbdi hv');exact qdb hE hQ rest _ _ _ hk ⟨Im',ρ',hI'.put hd hv'⟩
   ·exact hQ _ _ _ ⟨.pan c,_,Im',ρ',hk,hI',x,rfl,hc'⟩
  simp only[opsK] at h;unfold wpList
  cases hg:o.guard with
  | none=>
   rw[if_pos (by simp[Region.wanted,hg])];simp only[hg] at h;exact .inl (go _ hI h)
  | some jw=>
   obtain⟨j,want⟩:=jw;simp only[hg] at h
   cases hd:(ops[j]?).bind (·.dst) with
   | none=>simp only[hd] at h;cases h
   | some d=>
    simp only[hd] at h;obtain⟨s',h2,⟨h1,h3⟩|⟨h1,h3⟩⟩:=q03 h hI
    ·have hy:=qr0 hd h3;rw[if_pos (by simp[Region.wanted,hg,hy])];exact .inl (go _ h2 h1)
    ·have hy:=qs1 hd h3;rw[if_neg (by simp[Region.wanted,hg,hy])];exact qdb hE hQ rest _ _ _ h1 ⟨Im,ρ,h2.skipped _⟩
def q7y(P:Program)(E:Env):Prop:= ∀(β:Type) (w0:Base) (bl I0:Nat->Prop) (id:Nat) (ops:Array Oper) (Q:Exit->Act->World->Prop) (k:Ex->St->Option β) (r:β) (σ:St) (a:Act) (w:World),
 (∀e a w,Lands E w0 bl I0 k r e a w->Q e a w)->q9f ops (Region.before ops)=true->xbem σ.slots σ.heap (ops.toList.flatMap (makes E))=true->xbe0 P E ops (Region.before ops) 0 [] ops.toList σ k=some r->On E w0 bl I0 σ a w->(Code.region id ops true).wp P Q a w
theorem qss{c:Code}{b:St->(Ex->St->Option β)->Option β}{hd:St->St}{Q:Exit->Act->World->Prop}{k:Ex->St->Option β}{r:β}(hQ: ∀e a w,Lands E w0 bl I0 k r e a w->Q e a w)(hb: ∀(k':Ex->St->Option β) (Q':Exit->Act->World->Prop) (σ:St) (a:Act) (w:World),(∀e a w,Lands E w0 bl I0 k' r e a w->Q' e a w)->b σ k'=some r->On E w0 bl I0 σ a w->c.wp P Q' a w)(hh: ∀σ a w,On E w0 bl I0 σ a w->On E w0 bl I0 (hd σ) a w): ∀(n:Nat) (σ:St) (a:Act) (w:World),qxt n b hd σ k=some r->On E w0 bl I0 σ a w->Code.rounds P c Q n a w
 | 0,σ,a,w,h,_=>by cases h
 | n+1,σ,a,w,h,hO=>by
  simp only[qxt] at h;rw[rounds_succ];refine hb _ _ σ a w (fun e a w hl=> ?_) h hO;obtain⟨ex,σ',Im,ρ,h1,h2,h3⟩:=hl
  cases ex with
  | normal=>
   cases e<;>first|exact h3.elim|skip
   exact qss hQ hb hh n _ _ _ h1 (hh _ _ _ ⟨Im,ρ,h2⟩)
  | exit i=>
   cases e<;>first|exact h3.elim|skip
   exact hQ _ _ _ ⟨_,σ',Im,ρ,h1,h2,h3⟩
  | ret=>
   cases e<;>first|exact h3.elim|skip
   exact hQ _ _ _ ⟨_,σ',Im,ρ,h1,h2,h3⟩
  | pan c=>
   cases e<;>first|exact h3.elim|skip
   exact hQ _ _ _ ⟨_,σ',Im,ρ,h1,h2,h3⟩
abbrev FW(l:Nat):Fence:=Fence.wide.inRound l
theorem xbuz{l:Nat}{o:Oper}{a:Act}{w:World}{next:Act->World->Prop}{Q:Exit->Act->World->Prop}(hd: ∀c,o.op≠.defer c)(h:o.wp P a w next Q):o.wpIn (FW l) 0 P a w next Q:=by
 refine⟨fun _ _=>trivial, ?_⟩;have e:Oper.semAt (FW l).round a.eval o=execOp a.eval o:=Oper.semAt_some l _ o hd;rw[e];unfold Oper.wp at h;generalize (execOp a.eval o).run P w=res at h
 cases res with
 | halt x w'=>cases x<;>first|exact h|exact h.elim
 | ok x w'=>
  cases x with
  | enter f args=>exact⟨fun h=>by simp[Fence.wide] at h,(callsIn_wide (n:=0)).2 h⟩
  | row row args=>
   refine⟨fun h=>by simp[Fence.wide] at h,fun c cs _=> ?_⟩;obtain⟨v,w2,h1,h2⟩:=h c cs;exact⟨v,w2,h1,stepsIn_wide.2 h2⟩
  | _=>first|exact h|exact h.elim
theorem qn8{l:Nat}{ops:Array Oper}{Q:Exit->Act->World->Prop}(hq: ¬LetsOut Q): ∀(os:List Oper) (a:Act) (w:World),(∀o∈os, ∀c,o.op≠.defer c)->wpList P ops Q os a w->wpListIn (FW l) 0 P ops Q os a w
 | [],a,w,_,h=>h
 | o::r,a,w,hd,h=>by
  unfold wpList at h;unfold wpListIn;by_cases hw:Region.wanted o (yielded ops a.tmps)=true
  ·rw[if_pos hw] at h ⊢;have h:=h.resolve_right fun h=>hq h.2;have h:=xbuz (l:=l) (hd o (by simp)) h;refine⟨h.1, ?_⟩;have h:=h.2;generalize (Oper.semAt (FW l).round a.eval o).run P w=res at h ⊢;have ih:=fun a w=>qn8 (l:=l) (ops:=ops) hq r a w fun o ho=>hd o (by simp[ho])
   cases res with
   | halt x w'=>cases x<;>first|exact h|exact h.elim
   | ok x w'=>
    cases x with
    | enter f args=>
     refine⟨h.1,h.2.1,fun cs hcs=> ?_⟩;obtain⟨e,w2,fr,h1,h2⟩:=h.2.2 cs hcs;refine⟨e,w2,fr, ?_,h2⟩;cases e<;>first|exact ih _ _ h1|exact h1
    | row row args=>
     refine⟨h.1,fun c cs hcs=> ?_⟩;obtain⟨v,w2,h1,h2⟩:=h.2 c cs hcs;exact⟨v,w2,ih _ _ h1,h2⟩
    | round l f tmps assign body=>
     refine⟨h.1,h.2.1,fun c cs hcs=> ?_⟩;obtain⟨e,w2,h1,h2⟩:=h.2.2 c cs hcs;refine⟨e,w2, ?_,h2⟩;cases e<;>first|exact ih _ _ h1|exact h1
    | _=>first|exact ih _ _ h|exact h.elim
  ·rw[if_neg hw] at h ⊢;exact⟨fun _ _=>trivial,qn8 hq r _ _ (fun o ho=>hd o (by simp[ho])) h⟩
theorem qo8{k:Ex->St->Option β}{r:β}: ¬LetsOut (Lands E w0 bl I0 k r):=fun⟨a,w,ex,σ,Im,ρ,_,_,h⟩=>by cases ex<;>exact h
theorem qoi{l:Nat}{c:Code}{b:St->(Ex->St->Option β)->Option β}{hd:St->St}{Q:Exit->Act->World->Prop}{k:Ex->St->Option β}{r:β}(hQ: ∀e a w,Lands E w0 bl I0 k r e a w->Q e a w)(hb: ∀(k':Ex->St->Option β) (Q':Exit->Act->World->Prop) (σ:St) (a:Act) (w:World),(∀e a w,Lands E w0 bl I0 k' r e a w->Q' e a w)->b σ k'=some r->On E w0 bl I0 σ a w->c.wpIn (FW l) 0 P Q' a w)(hh: ∀σ a w,On E w0 bl I0 σ a w->On E w0 bl I0 (hd σ) a w): ∀(n:Nat) (σ:St) (a:Act) (w:World),qxt n b hd σ k=some r->On E w0 bl I0 σ a w->Code.roundsIn (FW l) 0 P c Q n a w
 | 0,σ,a,w,h,_=>by cases h
 | n+1,σ,a,w,h,hO=>by
  simp only[qxt] at h;rw[roundsIn_succ];refine hb _ _ σ a w (fun e a w hl=> ?_) h hO;obtain⟨ex,σ',Im,ρ,h1,h2,h3⟩:=hl
  cases ex with
  | normal=>
   cases e<;>first|exact h3.elim|skip
   exact qoi hQ hb hh n _ _ _ h1 (hh _ _ _ ⟨Im,ρ,h2⟩)
  | exit i=>
   cases e<;>first|exact h3.elim|skip
   exact hQ _ _ _ ⟨_,σ',Im,ρ,h1,h2,h3⟩
  | ret=>
   cases e<;>first|exact h3.elim|skip
   exact hQ _ _ _ ⟨_,σ',Im,ρ,h1,h2,h3⟩
  | pan c=>
   cases e<;>first|exact h3.elim|skip
   exact hQ _ _ _ ⟨_,σ',Im,ρ,h1,h2,h3⟩
theorem qve{rid:Nat}{k:Ex->St->Option Out}{r:Out}{Q:Exit->Act->World->Prop}(hQ: ∀e a w,Lands E w0 bl I0 k r e a w->Q e a w): ∀e a w,Lands E w0 bl I0 (kt E rid k) r e a w->Q e a w:=fun e a w ⟨ex,σ,Im,ρ,h1,h2,h3⟩=>by
 cases ex with
 | normal=>
  obtain⟨Im',ρ',h2'⟩:=On.tx (l:=E.xl (rid+1000)) ⟨Im,ρ,h2⟩;refine hQ _ _ _ ⟨.normal,_,Im',ρ',h1,h2', ?_⟩;cases e<;>exact h3
 | _=>exact hQ _ _ _ ⟨_,σ,Im,ρ,h1,h2,h3⟩
theorem qod(hE: ∀g,Sound P E.glob g (ctr E g))(hyl:E.yl=fun _=>none)(N:Nat){r:Out}{l:Nat}: ∀(c:Code),qk4 c=true->qbj P E N c->∀(k:Ex->St->Option Out) (Q:Exit->Act->World->Prop) (σ:St) (a:Act) (w:World),(∀e a w,Lands E w0 bl I0 k r e a w->Q e a w)->
  qcx P E N c σ k=some r->On E w0 bl I0 σ a w->c.wpIn (FW l) 0 P Q a w:=by
 intro c
 induction c with
 | skip=>
  intro hp hlo k Q σ a w hQ h ⟨Im,ρ,hI⟩;exact wpIn_skip (hQ _ _ _ ⟨.normal,σ,Im,ρ,h,hI,trivial⟩)
 | region id ops draw=>
  intro hp hlo k Q σ a w hQ h hO;simp only[qk4,zab,zao] at hp;obtain⟨hp1,hp2⟩:=hp;subst hp1;simp only[qcx,cond_false,hyl] at h;refine Go.wpIn_mono (Q:=Lands E w0 bl I0 k r) (wpIn_region_list (qn8 qo8 _ _ _ (fun o ho c hc=> ?_) (qdb hE (fun _ _ _ h=>h) _ _ _ _ h (On.prep _ hO)))) hQ;have:=zai.1 hp2 o ho;rw[hc] at this;cases this
 | seq x y ihx ihy=>
  intro hp hlo k Q σ a w hQ h hO;simp only[qk4,zab] at hp;simp only[qcx] at h;refine wpIn_seq (ihx hp.1 hlo.1 _ _ σ a w (fun e a w hl=> ?_) h hO);obtain⟨ex,σ',Im,ρ,h1,h2,h3⟩:=hl
  cases ex with
  | normal=>
   cases e<;>first|exact h3.elim|skip
   simp only at h1;split at h1
   ·rename_i L hL;exact ihy hp.2 hlo.2.1 _ Q _ a w (qve hQ) (hlo.2.2 L hL _ _ _ h1) (On.head (σ:=σ') ⟨Im,ρ,h2⟩ _)
   ·exact ihy hp.2 hlo.2.1 k Q σ' a w hQ h1 ⟨Im,ρ,h2⟩
  | exit i=>
   cases e<;>first|exact h3.elim|skip
   exact hQ _ _ _ ⟨_,σ',Im,ρ,h1,h2,h3⟩
  | ret=>
   cases e<;>first|exact h3.elim|skip
   exact hQ _ _ _ ⟨_,σ',Im,ρ,h1,h2,h3⟩
  | pan c=>
   cases e<;>first|exact h3.elim|skip
   exact hQ _ _ _ ⟨_,σ',Im,ρ,h1,h2,h3⟩
 | cond x c d ihc ihd=>
  intro hp hlo k Q σ a w hQ h ⟨Im,ρ,hI⟩;simp only[qk4,zab] at hp;simp only[qcx] at h;split at h
  ·rename_i t;obtain⟨b,s',h1,h2,h3⟩:=qga h hI;refine wpIn_cond (t:=b) h3 ?_
   cases b with
   | true=>exact ihc hp.1 hlo.1 k Q _ a w hQ h1 ⟨Im,ρ,h2⟩
   | false=>
    simp only at h1;split at h1
    ·rename_i L hL;exact ihd hp.2 hlo.2.1 _ Q _ a w (qve hQ) (hlo.2.2 L hL _ _ _ h1) (On.head (σ:=⟨s',σ.heap⟩) ⟨Im,ρ,h2⟩ _)
    ·exact ihd hp.2 hlo.2.1 k Q _ a w hQ h1 ⟨Im,ρ,h2⟩
  ·exact wpIn_cond (t:=true) rfl (ihc hp.1 hlo.1 k Q _ a w hQ h ⟨Im,ρ,hI⟩)
  ·exact wpIn_cond (t:=false) rfl (ihd hp.2 hlo.2.1 k Q _ a w hQ h ⟨Im,ρ,hI⟩)
  ·cases h
 | block id c ih=>
  intro hp hlo k Q σ a w hQ h hO;simp only[qcx] at h;refine wpIn_block (ih hp hlo _ _ σ a w (fun e a w hl=> ?_) h hO);obtain⟨ex,σ',Im,ρ,h1,h2,h3⟩:=hl
  cases ex with
  | normal=>
   cases e<;>first|exact h3.elim|skip
   exact hQ _ _ _ ⟨_,σ',Im,ρ,h1,h2,h3⟩
  | exit i=>
   cases e<;>first|exact h3.elim|skip
   rename_i i';have h3:i=i':=h3;subst h3;show if i=id then Q .normal a w else Q (.exit i) a w
   cases hb:Nat.beq i id with
   | true=>
    simp only[hb,cond_true] at h1;rw[if_pos (qag.1 hb)];exact hQ _ _ _ ⟨.normal,σ',Im,ρ,h1,h2,trivial⟩
   | false=>
    simp only[hb,cond_false] at h1;rw[if_neg (qa7 hb)];exact hQ _ _ _ ⟨.exit i,σ',Im,ρ,h1,h2,rfl⟩
  | ret=>
   cases e<;>first|exact h3.elim|skip
   exact hQ _ _ _ ⟨_,σ',Im,ρ,h1,h2,h3⟩
  | pan c=>
   cases e<;>first|exact h3.elim|skip
   exact hQ _ _ _ ⟨_,σ',Im,ρ,h1,h2,h3⟩
 | loop c ih=>
  intro hp hlo k Q σ a w hQ h hO;simp only[qcx] at h;have key: ∀n σ',qxt n (qcx P E N c) (head E (qae c)) σ' k=some r->On E w0 bl I0 σ' a w->(Code.loop c).wpIn (FW l) 0 P Q a w:=fun n σ' h hO=>
   wpIn_loop_rounds n (qoi hQ (fun k' Q' σ a w hq hb hO=>ih hp hlo.1 k' Q' σ a w hq hb hO) (fun σ a w h=>h.head _) n _ a w h hO)
  split at h
  ·rename_i L hL;obtain⟨n,hn⟩:=hlo.2 L hL _ _ _ h;exact key n _ hn (hO.head _)
  ·exact key N _ h (hO.head _)
 | exit id=>
  intro hp hlo k Q σ a w hQ h hO;obtain⟨Im,ρ,hI⟩:=On.tx (l:=E.xl (id+1)) hO;exact wpIn_exit (hQ _ _ _ ⟨.exit id,_,Im,ρ,h,hI,rfl⟩)
 | ret=>
  intro hp hlo k Q σ a w hQ h hO;obtain⟨Im,ρ,hI⟩:=On.tx (l:=E.xl 0) hO;exact wpIn_ret (hQ _ _ _ ⟨.ret,_,Im,ρ,h,hI,trivial⟩)
 | _=>intro hp hlo k Q σ a w hQ h _;simp[qk4] at hp
end
end Go.Proofs.YtoiikagnjcjccaaGreatDoorA
