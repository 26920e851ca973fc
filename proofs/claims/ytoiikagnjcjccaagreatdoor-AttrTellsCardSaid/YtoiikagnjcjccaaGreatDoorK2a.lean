/-
 append. Conditions: none.
-/
import Derived.Test.YtoiikagnjcjccaaGreatDoorK1b
import Derived.RangeFuncMany
import Derived.RangeFuncLeaves
import Derived.RangeFuncRecord
import Derived.RangeFuncOwn
import Derived.TacticsIn
import Derived.LoopNIn
import Derived.LoopN
import Derived.Orders
set_option linter.unusedVariables false
set_option linter.unusedSimpArgs false
set_option maxRecDepth 100000
namespace Go.Proofs.YtoiikagnjcjccaaGreatDoorA
theorem qe6{r rx:Rw}{o len:Nat}{tip:Bool}(h:r.window o len tip=some rx)(hok:okR r)(h2:o+len<=r.len)(h3:tip=true->o+len=r.len):
  okR rx/\growing rx=true/\rx.esz=r.esz/\rx.len=len/\qaf rx=((qaf r).drop (o*r.esz)).take (len*r.esz):=by
 have hl: ∀ {α:Type} (l:List α),o+len<=l.length->(tip=true->o+len=l.length)->(win l o len tip).length=len:=fun l a b=>by rw[qvm a b,zbm,zat];omega
 cases r with
 | ints k l=>
  simp only[Rw.window,zaa] at h;subst h;have h2:o+len<=l.length:=h2;have h3:tip=true->o+len=l.length:=h3;exact⟨trivial,rfl,rfl,hl l h2 h3,by simp[qaf,Rw.esz,qvm h2 h3,zcx,zc2]⟩
 | arri n k l=>
  simp only[Rw.window,zaa] at h;subst h;have hok:l.length=n:=hok;have h2:o+len<=l.length:=by rw[hok];exact h2
  have h3:tip=true->o+len=l.length:=by rw[hok];exact h3
  exact⟨trivial,rfl,rfl,hl l h2 h3,by simp[qaf,Rw.esz,qvm h2 h3,zcx,zc2]⟩
 | gen e l=>
  simp only[Rw.window,zaa] at h;subst h;have h2:o+len<=l.length:=h2;have h3:tip=true->o+len=l.length:=h3;have hu: ∀c∈l,(cell1 c).length=e:=hok;have hu': ∀c∈l.drop o,(cell1 c).length=e:=fun c hc=>hu c (zbf hc);refine⟨fun c hc=>hu c (by rw[qvm h2 h3] at hc;exact zbf (zbg hc)),rfl,rfl,hl l h2 h3, ?_⟩;simp only[qaf,Rw.esz,qvm h2 h3,qkw len hu',qkv o hu,zc2,zcx]
 | arrg n e l=>
  simp only[Rw.window,zaa] at h;subst h;have hn:l.length=n:=hok.1;have h2:o+len<=l.length:=by rw[hn];exact h2
  have h3:tip=true->o+len=l.length:=by rw[hn];exact h3
  have hu: ∀c∈l,(cell1 c).length=e:=hok.2;have hu': ∀c∈l.drop o,(cell1 c).length=e:=fun c hc=>hu c (zbf hc);refine⟨fun c hc=>hu c (by rw[qvm h2 h3] at hc;exact zbf (zbg hc)),rfl,rfl,hl l h2 h3, ?_⟩;simp only[qaf,Rw.esz,qvm h2 h3,qkw len hu',qkv o hu,zc2,zcx]
 | var l=>simp[Rw.window] at h
theorem qca{r:Rw}(hok:okR r)(hg:growing r=true):(qaf r).length=r.len*r.esz:=by
 cases r with
 | ints k l=>simp[qaf,Rw.len,Rw.esz]
 | gen e l=>simp only[qaf,Rw.len,Rw.esz,zam];exact qbl hok
 | _=>cases hg
theorem qet{x y r:Rw}(h:qgl x y=some r)(hx:okR x)(hy:okR y):okR r/\growing r=true/\r.esz=x.esz/\r.len=x.len+y.len/\qaf r=qaf x++qaf y/\(y.esz=x.esz\/y=.gen 0 [])/\growing y=true:=by
 unfold qgl at h;split at h
 ·simp only[zaa] at h;subst h;exact⟨hx,rfl,rfl,rfl,by simp[qaf],.inr rfl,rfl⟩
 ·simp only[zaa] at h;subst h;exact⟨hx,rfl,rfl,rfl,by simp[qaf],.inr rfl,rfl⟩
 ·rename_i ka l kb m;replace h:=qaa h;obtain⟨hk,h⟩:=h;obtain rfl:ka=kb:=of_decide_eq_true hk;simp only[zaa] at h;subst h;exact⟨trivial,rfl,rfl,by simp[Rw.len],by simp[qaf],.inl rfl,rfl⟩
 ·rename_i e l e' m _;replace h:=qaa h;obtain⟨hk,h⟩:=h;obtain rfl:=qag.1 hk;simp only[zaa] at h;subst h;exact⟨fun c hc=>(zak.1 hc).elim (hx c) (hy c),rfl,rfl,by simp[Rw.len],by simp[qaf],.inl rfl,rfl⟩
 ·cases h
theorem qvf{P:Program}{w:World}{Im:Nat->Prop}{ρ:Nat->Loc}{S:Nat->Option Sh}{t e':TypeId}{size:Nat}(hk:P.underlying t=some (.slice e'))(hz:size≠0){a:Option Addr}{len cap:Nat}{C:List V}{news:List Value}(hr:Reps w Im ρ S C news)(hl:C.length=len*size)(hc: ∀(j:Nat) (u:Value),news[j]? =some u->∃ad,a=some ad/\w.cell? (ad.add j)=some u):Src P size t (.slice a len cap) len news w:=by
 cases a with
 | some ad=>
  refine Src.ofSlice w hk ad len cap news (hr.1.trans hl) (fun j u hj=> ?_) fun u hu=>xbhk (hr.2.1 u hu);obtain⟨ad',e,h⟩:=hc j u hj;simp only[zaa] at e;subst e;exact h
 | none=>
  have hn:news=[]:=by
   cases news with
   | nil=>rfl
   | cons u q=>obtain⟨ad,e,_⟩:=hc 0 u rfl;cases e
  subst hn;have h0:len*size=0:=by have:=hr.1;simp at this;omega
  have h0:len=0:=by
   rcases Nat.mul_eq_zero.1 h0 with h|h
   ·exact h
   ·exact absurd h hz
  subst h0;exact Src.ofNil w hk cap
theorem qm8{w:World}{Im:Nat->Prop}{ρ:Nat->Loc}{S:Nat->Option Sh}{r rx:Rw}{o len:Nat}{tip:Bool}(h:r.window o len tip=some rx)(h2:o+len<=r.len)(h3:tip=true->o+len=r.len){b base lim:Nat}(hO:ORep w Im ρ S r (some (b,base,lim))): ∃news,Reps w Im ρ S (qaf rx) news/\∀(j:Nat) (u:Value),news[j]? =some u->w.cell? ⟨b,base+o*r.esz+j,none⟩=some u:=by
 obtain⟨hok,_,_,_,hcells⟩:=hO;obtain⟨g1,g2,g3,g4,g5⟩:=qe6 h hok h2 h3;have hlen:(qaf rx).length=len*r.esz:=by rw[qca g1 g2,g3,g4]
 obtain⟨vs,v1,v2,v3,v4⟩:=Cells.values (w:=w) (Im:=Im) (ρ:=ρ) (S:=S) (b:=b) (off:=base) (C:=qaf r) hcells (o*r.esz) (len*r.esz) (by rw[<- g5];exact hlen);rw[<- g5] at v4;exact⟨vs,⟨by rw[v1,hlen],v3,v4⟩,fun j u hj=>by have:=v2 j u hj;rwa [qdw] at this⟩
theorem qko{x y r:Rw}(h:qgl x y=some r):(y.esz=x.esz\/y=.gen 0 [])/\r.esz=x.esz:=by
 unfold qgl at h;split at h
 ·simp only[zaa] at h;subst h;exact⟨.inr rfl,rfl⟩
 ·simp only[zaa] at h;subst h;exact⟨.inr rfl,rfl⟩
 ·replace h:=qaa h;obtain⟨hk,h⟩:=h;simp only[zaa] at h;subst h;exact⟨.inl rfl,rfl⟩
 ·replace h:=qaa h;obtain⟨hk,h⟩:=h;obtain rfl:=qag.1 hk;simp only[zaa] at h;subst h;exact⟨.inl rfl,rfl⟩
 ·cases h
theorem Reps.any{w:World}{Im:Nat->Prop}{ρ ρ':Nat->Loc}{S S':Nat->Option Sh}{r:Rw}{vs:List Value}(hg:growing r=true)(h:Reps w Im ρ S (qaf r) vs):Reps w Im ρ' S' (qaf r) vs:=by refine⟨h.1,h.2.1,fun j c v hj hv=>(h.2.2 j c v hj hv).congr (fun _ _=>rfl) (fun _ h=>h) fun q hq=> ?_⟩;have:=qco (p:=q) (r:=r) (fun l e=>by subst e;cases hg) hj;rw[this] at hq;cases hq
theorem Reps.append{w:World}{Im:Nat->Prop}{ρ:Nat->Loc}{S:Nat->Option Sh}{C D:List V}{us vs:List Value}(h:Reps w Im ρ S C us)(g:Reps w Im ρ S D vs):Reps w Im ρ S (C++D) (us++vs):=by
 obtain⟨h1,h2,h3⟩:=h;obtain⟨g1,g2,g3⟩:=g;refine⟨by simp[h1,g1],fun v hv=>(zak.1 hv).elim (h2 v) (g2 v),fun j c v hj hv=> ?_⟩;by_cases hl:j<C.length
 ·rw[zaw hl] at hj;rw[zaw (by omega)] at hv;exact h3 j c v hj hv
 ·rw[zav (by omega)] at hj;rw[zav (by omega),h1] at hv;exact g3 _ c v hj hv
theorem xbie{P:Program}{H:Heap}{w:World}{Im:Nat->Prop}{ρ:Nat->Loc}(hob: ∀p o,qah H p=some o->ORep w Im ρ (shOf H) o.row (ρ p)){y:V}{ry:Rw}(h:q0o H y=some ry){av:Value}(hv:VRep w Im ρ (shOf H) y av){t:TypeId}{size:Nat}(hz:size≠0)(hk:(∃e',P.underlying t=some (.slice e'))\/∃b,y=.cl (.str b))(hns: ∀b,y=.cl (.str b)->P.underlying t=some .string)(he:ry.esz=size\/ry=.gen 0 []):okR ry/\growing ry=true/\∃news,Src P size t av ry.len news w/\Reps w Im ρ (shOf H) (qaf ry) news:=by
 have hkind:(∀b,y≠.cl (.str b))->∃e',P.underlying t=some (.slice e'):=fun hn=>by
  rcases hk with hk|⟨b,hb⟩
  ·exact hk
  ·exact absurd hb (hn b)
 have nil0:Reps w Im ρ (shOf H) (qaf (.gen 0 [])) []:=⟨rfl,by simp,fun j c v hj=>by simp[qaf] at hj⟩;unfold q0o at h;split at h
 ·rename_i b;simp only[zaa] at h;subst h;obtain rfl:=hv.str;have h1:size=1:=by
   rcases he with he|he
   ·exact he.symm
   ·cases he
  subst h1;have hlen:(Rw.ints .u8 (bytesOf b)).len=b.size:=by simp[Rw.len,bytesOf]
  refine⟨trivial,rfl,_,by rw[hlen];exact Src.ofString w (hns b rfl) b, ?_⟩;refine⟨by simp[qaf,bytesOf,byteCells],fun v hv=>by obtain⟨_,_,rfl⟩:=za8.1 hv;rfl,fun j c v hj hv=> ?_⟩;simp only[qaf,bytesOf,zcg,zai] at hj;simp only[byteCells,zai] at hv
  cases hd:b.data.toList[j]? with
  | none=>rw[hd] at hj;cases hj
  | some x=>
   rw[hd] at hj hv;simp only[zap,zaa] at hj hv;subst hj hv;exact .ofInt _ _
 ·rename_i hn;obtain⟨e',hke⟩:=hkind hn;unfold xbk7 at h;split at h
  ·simp only[zaa] at h;subst h;cases hv;exact⟨fun c hc=>by simp at hc,rfl,[],Src.ofNil w hke 0,nil0⟩
  ·rename_i p o len tip es;split at h
   ·rename_i ob hp;have hS:shOf H p=some (shp ob):=by simp[shOf,hp]
    have hO:=hob p ob hp
    cases hv with
    | refN _ _ _ _ _ _ _ h0 _ _=>rw[hS] at h0;cases h0
    | refV _ s _ _ h1 h2 h3 h4=>
     rw[hS] at h1;simp only[zaa] at h1;subst h1;rw[h2] at hO;have h3:ob.row.len=0:=h3;obtain⟨g1,g2,g3,g4,g5⟩:=qe6 h hO.2.2 (by omega) (fun _=>by omega);have hc0:(qaf ry)=[]:=by have:=qca g1 g2;rw[g4,zc1] at this;exact zcb.1 this
     refine⟨g1,g2,[],by rw[g4];exact Src.ofNil w hke 0, ?_⟩;rw[hc0];exact⟨rfl,by simp,fun j c v hj=>by simp at hj⟩
    | ref _ _ _ _ _ s b base lim ad cap h1 h2 h3 h4 h5 h6 h7 h8=>
     rw[hS] at h1;simp only[zaa] at h1;subst h1;rw[h2] at hO;have h3:ob.row.esz=es:=h3;obtain⟨g1,g2,g3,g4,g5⟩:=qe6 h hO.1 h5 h6;obtain⟨news,n1,n2⟩:=qm8 h h5 h6 hO;have hlen:=qca g1 g2;refine⟨g1,g2,news, ?_,n1⟩;rw[g4];refine qvf hke hz n1 ?_ fun j u hj=>⟨ad,rfl, ?_⟩
     ·rw[hlen,g4];rcases he with he|he
      ·rw[he]
      ·subst he;have:len=0:=by rw[<- g4];rfl
       subst this;simp
     ·have hjl:=(zae.1 hj).1;rw[n1.1,hlen,g4] at hjl;have hlp:len≠0:=fun e=>by subst e;simp at hjl
      rw[h7 (by omega),qdw, <- h3];exact n2 j u hj
   ·cases h
  ·rename_i kk l;simp only[zaa] at h;subst h;have h1:size=1:=by
    rcases he with he|he
    ·exact he.symm
    ·cases he
   subst h1
   cases hv.closed with
   | sli _ _ a len cap g1 g2 g3=>
    refine⟨trivial,rfl,l.map (.int kk), ?_,by simp[qaf],fun v hv=>by obtain⟨_,_,rfl⟩:=za8.1 hv;rfl,fun j c v hj hv=> ?_⟩
    ·have hr:Reps w Im ρ (shOf H) (qaf (.ints kk l)) (l.map (.int kk)):=⟨by simp[qaf],fun v hv=>by obtain⟨_,_,rfl⟩:=za8.1 hv;rfl,fun j c v hj hv=>by
      simp only[qaf,zai] at hj hv
      cases hd:l[j]? with
      | none=>rw[hd] at hj;cases hj
      | some x=>
       rw[hd] at hj hv;simp only[zap,zaa] at hj hv;subst hj hv;exact .ofInt _ _⟩
     have hl:(Rw.ints kk l).len=len:=g1;rw[hl];refine qvf hke hz hr (by simp[qaf,g1]) fun j u hj=> ?_;rw[zai] at hj
     cases hd:l[j]? with
     | none=>rw[hd] at hj;cases hj
     | some x=>
      rw[hd] at hj;simp only[zap,zaa] at hj;subst hj;obtain⟨ad,q1,_,q2⟩:=g3 j x hd;exact⟨ad,q1,q2⟩
    ·simp only[qaf,zai] at hj hv
     cases hd:l[j]? with
     | none=>rw[hd] at hj;cases hj
     | some x=>
      rw[hd] at hj hv;simp only[zap,zaa] at hj hv;subst hj hv;exact .ofInt _ _
  ·rename_i es l;simp only[zaa] at h;subst h
   cases hv.closed with
   | slg _ _ a len cap f g0 g1 g2 g3 g5 g4=>
    have hfl:(l.flatMap cell1).length=l.length*es:=qbl g0;have hgetf: ∀(j:Nat) (v:Value),((List.range (l.flatMap cell1).length).map f)[j]? =some v->∃c,(l.flatMap cell1)[j]? =some c/\v=f j:=fun j v hj=>by
     have hjl:j<(l.flatMap cell1).length:=by have:=(zae.1 hj).1;simpa using this
     rw[zai,zci hjl] at hj;simp only[zap,zaa] at hj;exact⟨_,zad hjl,hj.symm⟩
    have hr:Reps w Im ρ (shOf H) (qaf (.gen es l)) ((List.range (l.flatMap cell1).length).map f):=⟨by simp[qaf],fun v hv=>by
      obtain⟨j,hj,rfl⟩:=za8.1 hv;exact g5 j _ (zad (zb0.1 hj)),fun j c v hj hv=>by
      obtain⟨d,hd,rfl⟩:=hgetf j v hv;simp only[qaf,zai,hd,zap,zaa] at hj;subst hj;exact .cl _ _ (g4 j d hd)⟩
    refine⟨g0,rfl,_, ?_,hr⟩;have hl:(Rw.gen es l).len=len:=g1;rw[hl];refine qvf hke hz hr ?_ fun j u hj=> ?_
    ·simp only[qaf,zam];rw[hfl,g1];rcases he with he|he
     ·have:es=size:=he;rw[this]
     ·simp only[Rw.gen.injEq] at he;have:len=0:=by rw[<- g1,he.2];rfl
      subst this;simp
    ·obtain⟨d,hd,rfl⟩:=hgetf j u hj;obtain⟨ad,q1,_,q2⟩:=g3 j d hd;exact⟨ad,q1,q2⟩
  ·cases h
theorem q5d{n:Nat}(h:Nat.ble n LIMN=true):(n:Int)<=LIM:=by have:=zb2 h;unfold LIMN at this;unfold LIM;omega
theorem qog{P:Program}{β:Type}{E:Env}{w0:Base}{bl I0:Nat->Prop}{s:List (Nat×V)}{H H1:Heap}{a:Act}{w:World}{Im:Nat->Prop}{ρ:Nat->Loc}{pos:Nat}{k:V->Upd->Option β}{res:β}(hI:Inv E w0 bl I0 s H1 a w Im ρ)(hf:Free pos s H1){rx ry r:Rw}{st t2 ty e:TypeId}{i:TypeInfo}{z:Value}{u:Upd}{size:Nat}(ht:P.underlying st=some (.slice e))(hi:P.info? e=some i)(hz:i.zero=some z)(hsz:i.size=size)(hzs:z.cells.size=size)(hr:qgl rx ry=some r)(hok:okR rx)(hg:growing rx=true)(hoky:okR ry)(hesz:r.esz=size)(hk:k (.ref pos 0 r.len true size) u=some res)(hu:updH H u=qcg H1 pos ⟨r,false⟩){base:Option Addr}{cap:Nat}{olds news:List Value}{ay:Value}(hold: ∀w',(∀A,w'.cell? A=w.cell? A)->(Builtin.firstCells size rx.len (.slice base rx.len cap)).run P w'=.ok olds.toArray w')(ho:Reps w Im ρ (shOf H1) (qaf rx) olds)(hn:Reps w Im ρ (shOf H1) (qaf ry) news)(hs:Src P size t2 ay ry.len news w)(hcap:cap<rx.len+ry.len)(hb:(r.len:Int)*(qq7 P e:Int)<=LIM)(hb2:(r.len:Int)<=LIM):
  Does P E w0 bl I0 s H a w k res (Builtin.append_ #[st,t2] ty #[.slice base rx.len cap,ay]):=by
 subst hsz;obtain⟨g1,g2,g3,g4,g5,g6,g7⟩:=qet hr hok hoky;have hby:qq7 P e=i.bytes:=by simp[qq7,hi]
 have hb':r.len*i.bytes<=140737488355328:=by rw[hby, <- Int.natCast_mul] at hb;unfold LIM at hb;omega
 have hrun:=run_append_grow_src (P:=P) w st t2 ty e i z ht hi hz base rx.len cap olds (hold w.drew fun A=>by simp) ay ry.len news hs hcap (by unfold LIM at hb2;rw[g4] at hb2;omega) (growslice_fits hcap (by rw[<- g4];exact hb'));have hge:=grownCap_ge w (rx.len+ry.len) cap e;rw[<- g4] at hrun hge;have hl:(qaf r).length=r.len*i.size:=by rw[qca g1 g2,hesz]
 have hreps:=ho.append hn;rw[<- g5] at hreps;have hol:(olds++news).length=r.len*i.size:=by rw[hreps.1,hl]
 have hcs:((olds++news).toArray++Builtin.zeroCells z.cells (grownCap w r.len cap e - r.len)).size=grownCap w r.len cap e*i.size:=by rw[zdp,size_zeroCells,hzs,List.size_toArray,hol, <- zda];congr 1;omega
 have hle:r.len*i.size<=grownCap w r.len cap e*i.size:=zcc _ hge;refine qu5 hI hf hk hu hrun (cs:=(olds++news).toArray++Builtin.zeroCells z.cells (grownCap w r.len cap e - r.len)) (el:=e) (fr:=(0,0)) rfl rfl rfl rfl g1 g2 rfl hesz hge (by rw[hcs];exact zas _) (by rw[hcs,hl];exact hle) (fun i _ h=>by omega) fun j c hj=> ?_;have hjl:j<(olds++news).length:=by rw[hreps.1];exact(zae.1 hj).1
 have hg:=zad hjl;refine⟨_, ?_,hreps.2.1 _ (zcd hjl),hreps.2.2 j c _ hj hg⟩;rw[zck (by simpa using hjl)];simp
theorem Free.del{p q:Nat}{s:List (Nat×V)}{H:Heap}(h:Free p s H):Free p s (qvz H q):=by
 refine⟨h.big,by rw[qb0];split<;>simp[h.none],h.sl,fun x o hx=>h.ob x o ?_⟩;rw[qb0] at hx;split at hx
 ·cases hx
 ·exact hx
theorem Fr.ofSet{w w':World}{b o:Nat}{vs:List Value}(h:SetAt w b o vs w'):Fr w (fun c=>c=b) w':=
 ⟨h.os,h.tape,h.output,by rw[h.size];exact zas _,fun c _ hc=>h.block c hc⟩
theorem q27{P:Program}{β:Type}{E:Env}{w0:Base}{bl I0:Nat->Prop}{s:List (Nat×V)}{H:Heap}{a:Act}{w w':World}{Im:Nat->Prop}{ρ:Nat->Loc}{pos p:Nat}{k:V->Upd->Option β}{res:β}(hI:Inv E w0 bl I0 s H a w Im ρ)(hf:Free pos s H){row r:Rw}(hp:qah H p=some ⟨row,false⟩){b base lim q off:Nat}(hr:ρ p=some (b,base,lim)){vs:List Value}(hw:SetAt w b (base+off) vs w')(hqo:q<=lim)(hov:off+vs.length<=lim)(hok:okR r)(hg:growing r=true)(hlen:(qaf r).length<=lim - q)(hc: ∀(j:Nat) (c:V),(qaf r)[j]? =some c->∃v:Value,w'.cell? ⟨b,base+q+j,none⟩=some v/\oneC v=true/\VRep w Im ρ (shOf H) c v){ad:Addr}{cap:Nat}{run:Sem Value}(hk:k (.ref pos 0 r.len true r.esz) [(p,none),(pos,some ⟨r,false⟩)]=some res)(hrun:run.run P w=.ok (.slice (some ad) r.len cap) w')(hcap:r.len<=cap)(had:cap≠0->ad=⟨b,base+q,none⟩)(hlim:cap*r.esz<=lim - q):Does P E w0 bl I0 s H a w k res run:=by
 have hlk:=hI.gam.lk p _ b base lim hp hr;obtain⟨hnI,hbl⟩:=hlk.2.2 rfl;have hO:=hI.gam.ob p _ hp;rw[hr] at hO;obtain⟨_,o2,_,o4,_⟩:=hO;have hex: ∀x o y z,qah (qvz H p) x=some o->ρ x≠some (b,y,z):=fun x o y z hx hrx=>by
  rw[qb0] at hx;split at hx
  ·cases hx
  ·rename_i hne;have:=(hI.gam.dj x p o _ b y z base lim hx hp hrx hr hne).2;cases this
 have h1:=(hI.drop p).step (Fr.ofSet hw) (fun c hc _=>by subst hc;exact⟨hnI,hbl⟩) fun x o c y z hx hrx hc=>by subst hc;exact hex x o y z hx hrx
 have hpl:=h1.place hf.del (r:=r) (b:=b) (base:=base+q) (lim:=lim - q) (by rw[hw.size];exact o2) hnI hbl hex hok hlen (fun i hi=> ?_) (fun l e=>by subst e;cases hg) fun j c hj=> ?_
 ·refine⟨_,_,_,w',Im,put ρ pos (some (b,base+q,lim - q)),hk,hrun,hpl, ?_⟩;show VRep w' Im _ (shOf (qcg (qvz H p) pos ⟨r,false⟩)) _ _;exact .ref pos 0 r.len true r.esz (shp ⟨r,false⟩) b (base+q) (lim - q) ad cap (by rw[qc1,if_pos rfl]) (by simp[put]) rfl hcap (by simp[shp]) (fun _=>by simp[shp]) (fun h=>by simpa using had h) (by simpa using hlim)
 ·obtain⟨c1,c2⟩:=o4 (q+i) (by omega);rw[<- zbn] at c1 c2;refine⟨?_,by rw[hw.fz];exact c2⟩;by_cases hin:base+q+i<base+off\/base+off+vs.length<=base+q+i
  ·rw[hw.cout _ hin];exact c1
  ·have:base+q+i=base+off+(q+i - off):=by omega
   rw[this,hw.cin (q+i - off) _ (zad (by omega))];rfl
 ·obtain⟨v,v1,v2,v3⟩:=hc j c hj;refine⟨v,v1,v2,v3.congr (fun d hd=>hw.block d fun e=>by subst e;exact hnI hd) (fun _ h=>h) fun x hx=> ?_⟩;have:=qco (p:=x) (r:=r) (fun l e=>by subst e;cases hg) hj;rw[this] at hx;cases hx
theorem q4r{P:Program}{β:Type}{E:Env}{w0:Base}{bl I0:Nat->Prop}{s:List (Nat×V)}{H:Heap}{a:Act}{w:World}{Im:Nat->Prop}{ρ:Nat->Loc}{st t2 ty:TypeId}{x y:V}{ax ay:Value}{pos:Nat}{k:V->Upd->Option β}{res:β}(h:qee P H st pos x y k=some res)(hI:Inv E w0 bl I0 s H a w Im ρ)(hf:Free pos s H)(hx:VRep w Im ρ (shOf H) x ax)(hy:VRep w Im ρ (shOf H) y ay)(hk2:(∃e',P.underlying t2=some (.slice e'))\/∃b,y=.cl (.str b))(hns: ∀b,y=.cl (.str b)->P.underlying t2=some .string):
  Does P E w0 bl I0 s H a w k res (Builtin.append_ #[st,t2] ty #[ax,ay]):=by
 unfold qee at h;split at h
 ·rename_i e hk;split at h
  ·rename_i r0 ry hr0 hry;obtain⟨i,z,z1,z2,z3,z4,z5,z6,z7,z8,z9,z10,z11,z12,z13⟩:=qgi hr0;have ht:=qb5 hk;have hsrc: ∀ {rx r:Rw},qgl rx ry=some r->r.esz=qao P e->okR ry/\growing ry=true/\∃news,Src P (qao P e) t2 ay ry.len news w/\Reps w Im ρ (shOf H) (qaf ry) news:=fun {rx r} har hes=>by obtain⟨a1,a2⟩:=qko har;exact xbie hI.gam.ob hry hy z5 hk2 hns (a1.imp (fun e=>by rw[e, <- a2,hes]) id)
   have hnone: ∀news,Src P (qao P e) t2 ay ry.len news w->ry.len=0->Src P i.size t2 ay 0 [] w:=fun news hs h0=>by have h1:=hs.newsLen;rw[h0,zc1] at h1;obtain rfl:=zcb.1 h1;rw[h0] at hs;rw[z3];exact hs
   split at h
   ·split at h
    ·rename_i r har;replace h:=qaa h;obtain⟨h1,h⟩:=h;replace h:=qaa h;obtain⟨h2,h⟩:=h;replace h:=qaa h;obtain⟨h3,h⟩:=h;have h1:=qag.1 h1;have h2:=q5d h2;have h3:=q5d h3;obtain⟨hoky,hgy,news,hs,hn⟩:=hsrc har h1;obtain⟨g1,g2,g3,g4,g5,g6,g7⟩:=qet har z6 hoky;cases hx;rw[z10,za1] at g4;by_cases h0:ry.len=0
     ·refine⟨_,_,_,w,Im,put ρ pos none,h,run_append_nothing w st t2 ty e i ht z1 none 0 0 (zas _) ay (hnone news hs h0),hI.virtual hf g2 (by omega) g1, ?_⟩;rw[show r.len=0 by omega];exact .refV pos (shp ⟨r,false⟩) true _ (by show shOf (qcg H pos _) pos=_;rw[qc1,if_pos rfl]) (by simp[put]) (by show r.len=0;omega) h1
     ·have hc0:qaf r0=[]:=by rw[zc1] at z11;exact zcb.1 z11
      have:=qog (s:=s) (H:=H) (ty:=ty) hI hf ht z1 z2 z3 z4 har z6 z8 hoky h1 h rfl (base:=none) (cap:=0) (olds:=[]) (news:=news) (fun w' _=>run_firstCells_none w' _ _ _ _) (by rw[hc0];exact⟨rfl,by simp,by simp⟩) hn hs (by omega) h2 h3;rw[z10] at this;exact this
    ·cases h
   ·rename_i p o len es;split at h
    ·rename_i row hp;split at h
     ·rename_i rx hwin;split at h
      ·rename_i r har;replace h:=qaa h;obtain⟨h1,h⟩:=h;replace h:=qaa h;obtain⟨h2,h⟩:=h;replace h:=qaa h;obtain⟨h3,h⟩:=h;have h1:=qag.1 h1;have h2:=q5d h2;have h3:=q5d h3;obtain⟨hoky,hgy,news,hs,hn⟩:=hsrc har h1;have hS:shOf H p=some (shp ⟨row,false⟩):=by simp[shOf,hp]
       have hO:=hI.gam.ob p _ hp
       cases hx with
       | refN _ _ _ _ _ _ _ h0 _ _=>rw[hS] at h0;cases h0
       | refV _ s' _ _ q1 q2 q3 q4=>
        rw[hS] at q1;simp only[zaa] at q1;subst q1;rw[q2] at hO;have q3:row.len=0:=q3;obtain⟨x1,x2,x3,x4,x5⟩:=qe6 hwin hO.2.2 (by omega) (fun _=>by omega);obtain⟨g1,g2,g3,g4,g5,g6,g7⟩:=qet har x1 hoky;rw[x4,za1] at g4;by_cases h0:ry.len=0
        ·refine⟨_,_,_,w,Im,put ρ pos none,h,run_append_nothing w st t2 ty e i ht z1 none 0 0 (zas _) ay (hnone news hs h0),(hI.drop p).virtual hf.del g2 (by omega) g1, ?_⟩;rw[show r.len=0 by omega];exact .refV pos (shp ⟨r,false⟩) true _ (by show shOf (qcg (qvz H p) pos _) pos=_;rw[qc1,if_pos rfl]) (by simp[put]) (by show r.len=0;omega) h1
        ·have hc0:qaf rx=[]:=by have:=qca x1 x2;rw[x4,zc1] at this;exact zcb.1 this
         have:=qog (s:=s) (H:=H) (ty:=ty) (hI.drop p) hf.del ht z1 z2 z3 z4 har x1 x2 hoky h1 h rfl (base:=none) (cap:=0) (olds:=[]) (news:=news) (fun w' _=>run_firstCells_none w' _ _ _ _) (by rw[hc0];exact⟨rfl,by simp,by simp⟩) (hn.any hgy) hs (by omega) h2 h3;rw[x4] at this;exact this
       | ref _ _ _ _ _ s' b base lim ad cap q1 q2 q3 q4 q5 q6 q7 q8=>
        rw[hS] at q1;simp only[zaa] at q1;subst q1;rw[q2] at hO;have q3:row.esz=es:=q3;have q5:o+len<=row.len:=q5;obtain⟨x1,x2,x3,x4,x5⟩:=qe6 hwin hO.1 q5 q6;obtain⟨olds,n1,n2⟩:=qm8 hwin q5 q6 hO;obtain⟨g1,g2,g3,g4,g5,g6,g7⟩:=qet har x1 hoky;have hes:es=qao P e:=by rw[<- q3, <- x3, <- g3,h1]
        subst hes;have hcl:(o+cap)*qao P e=o*qao P e+cap*qao P e:=zda ..;have hx1:(qaf rx).length=len*qao P e:=by rw[qca x1 x2,x4,x3,q3]
        have hr1:(qaf r).length=r.len*qao P e:=by rw[qca g1 g2,h1]
        rw[q3] at n2;have hoa: ∀(j:Nat) (v:Value),olds[j]? =some v->w.cell? (ad.add j)=some v:=fun j v hj=>by
         have hjl:=(zae.1 hj).1;rw[n1.1,hx1] at hjl;have hlp:len≠0:=fun e=>by subst e;simp at hjl
         rw[q7 (by omega),qdw];exact n2 j v hj
        by_cases hroom:len+ry.len<=cap
        ·have hrc:r.len<=cap:=by rw[g4,x4];exact hroom
         have hlimr:r.len*qao P e<=cap*qao P e:=zcc _ hrc;have hnl:news.length=ry.len*qao P e:=hs.newsLen;have hsum:r.len*qao P e=len*qao P e+ry.len*qao P e:=by rw[g4,x4,zda]
         rw[<- h1] at h;by_cases h0:ry.len=0
         ·have hnews:news=[]:=by rw[h0,zc1] at hnl;exact zcb.1 hnl
          subst hnews;have hrl:r.len=len:=by omega
          refine q27 (w':=w) hI hf hp q2 (q:=o*qao P e) (off:=0) (vs:=[]) ⟨rfl,rfl,rfl,rfl,fun _ _=>rfl,by simp,fun _ _=>rfl,fun _=>rfl⟩ (by omega) (by simp) g1 g2 (by omega) (fun j c hj=> ?_) h (by
           rw[hrl];exact run_append_nothing w st t2 ty e i ht z1 (some ad) len cap q4 ay (hnone _ hs h0)) hrc q7 (by rw[h1];omega)
          have hcy:qaf ry=[]:=zcb.1 (by have:=hn.1;simpa using this.symm);rw[g5,hcy,za6] at hj;have hjl:j<olds.length:=by rw[n1.1];exact(zae.1 hj).1
          have hgj:=zad hjl;exact⟨_,n2 j _ hgj,n1.2.1 _ (zcd hjl),n1.2.2 j c _ hj hgj⟩
         ·have hcap0:cap≠0:=by omega
          have had:=q7 hcap0;subst had;have hex: ∀j,j<news.length->(w.cell? ⟨b,base+o*qao P e+len*qao P e+j,none⟩).isSome=true/\w.frozen? ⟨b,base+o*qao P e+len*qao P e+j,none⟩=false:=fun j hj=>by have:=hO.2.2.2.1 (o*qao P e+len*qao P e+j) (by omega);rwa [show base+(o*qao P e+len*qao P e+j)=base+o*qao P e+len*qao P e+j by omega] at this
          have hrun:=run_append_room_src (P:=P) w st t2 ty e i ht z1 b (base+o*qao P e) len cap ay ry.len news (by rw[z3];exact hs) hroom (fun j hj=>by rw[z3];exact(hex j hj).1) (fun j hj=>by rw[z3];exact(hex j hj).2);rw[z3, <- x4, <- g4] at hrun;rw[x4] at hrun;have hset:=qne (w:=w) (b:=b) news (base+(o*qao P e+len*qao P e)) (fun j hj=>by have:=(hex j hj).1;rwa [<- zbn]);rw[<- zbn] at hset;refine q27 hI hf hp q2 (q:=o*qao P e) (off:=o*qao P e+len*qao P e) (vs:=news) (by rw[<- zbn];exact hset) (by omega) (by omega) g1 g2 (by omega) (fun j c hj=> ?_) h hrun hrc (fun _=>rfl) (by rw[h1];omega);rw[g5] at hj;by_cases hjx:j<(qaf rx).length
          ·rw[zaw hjx] at hj;have hjl:j<olds.length:=by rw[n1.1];exact hjx
           have hgj:=zad hjl;exact⟨_,by rw[hset.cout _ (.inl (by omega))];exact n2 j _ hgj,n1.2.1 _ (zcd hjl),n1.2.2 j c _ hj hgj⟩
          ·rw[zav (by omega)] at hj;have hjl:j - (qaf rx).length<news.length:=by rw[hn.1];exact(zae.1 hj).1
           have hgj:=zad hjl;refine⟨_, ?_,hn.2.1 _ (zcd hjl),hn.2.2 _ c _ hj hgj⟩;rw[<- hset.cin _ _ hgj];congr 2;omega
        ·have:=qog (s:=s) (H:=H) (ty:=ty) (hI.drop p) hf.del ht z1 z2 z3 z4 har x1 x2 hoky h1 h rfl (base:=some ad) (cap:=cap) (olds:=olds) (news:=news) (fun w' hw'=>by
          refine run_firstCells_some (P:=P) w' _ _ ad _ _ olds (by rw[n1.1,hx1,x4]) fun j v hj=>by rw[hw'];exact hoa j v hj) (n1.any x2) (hn.any hgy) hs (by omega) h2 h3
         rw[x4] at this;exact this
      ·cases h
     ·cases h
    ·cases h
   ·cases h
  ·cases h
 ·cases h
def qc7(H H1:Heap):Prop:= ∀q,(qah H1 q).map (·.row)=(qah H q).map (·.row)
theorem qc7.fwd{H H1:Heap}(h:qc7 H H1){q:Nat}{o:Obj}(hq:qah H q=some o): ∃o1,qah H1 q=some o1/\o1.row=o.row:=by
 have:=h q;rw[hq] at this
 cases h1:qah H1 q with
 | none=>rw[h1] at this;cases this
 | some o1=>rw[h1] at this;exact⟨o1,rfl,by simpa using this⟩
theorem qc7.bwd{H H1:Heap}(h:qc7 H H1){q:Nat}{o:Obj}(hq:qah H1 q=some o): ∃o1,qah H q=some o1/\o.row=o1.row:=by
 have:=h q;rw[hq] at this
 cases h1:qah H q with
 | none=>rw[h1] at this;cases this
 | some o1=>rw[h1] at this;exact⟨o1,rfl,by simpa using this⟩
theorem qc7.sh{H H1:Heap}(h:qc7 H H1):shOf H1=shOf H:=by
 funext q;have:=h q;unfold shOf
 cases h1:qah H1 q with
 | none=>
  rw[h1] at this
  cases h2:qah H q with
  | none=>rfl
  | some o=>rw[h2] at this;cases this
 | some o1=>
  rw[h1] at this
  cases h2:qah H q with
  | none=>rw[h2] at this;cases this
  | some o=>
   rw[h2] at this;simp only[zap,zaa] at this ⊢;simp[shp,this]
theorem qc7.free{H H1:Heap}(h:qc7 H H1){p:Nat}{s:List (Nat×V)}(hf:Free p s H):Free p s H1:=by
 refine⟨hf.big, ?_,hf.sl,fun q o hq l hl=> ?_⟩
 ·cases h1:qah H1 p with
  | none=>rfl
  | some o=>obtain⟨o1,ho,_⟩:=h.bwd h1;rw[hf.none] at ho;cases ho
 ·obtain⟨o1,ho,hr⟩:=h.bwd hq;exact hf.ob q o1 ho l (hr▸hl)
theorem qck{H:Heap}: ∀(l:List Nat) {H1:Heap},qc7 H H1->qc7 H (updH H1 (lockAll H l))
 | [],H1,h=>h
 | p::r,H1,h=>by
  simp only[lockAll]
  cases hp:qah H p with
  | none=>exact qck r h
  | some ob=>
   refine qck r (H1:=qcg H1 p {ob with lock:=true}) fun q=> ?_;rw[qar];split
   ·rename_i e;subst e;simp[hp]
   ·exact h q
theorem qc7.refl(H:Heap):qc7 H H:=fun _=>rfl
theorem q1d{place:Nat->Option (Nat×Nat)}{cs cs1:Array Value}{q:Nat×Value}{qs:List (Nat×Value)}(h:Instr.fill place cs [q]=some cs1):Instr.fill place cs (q::qs)=Instr.fill place cs1 qs:=by
 obtain⟨i,v⟩:=q;simp only[Instr.fill] at h ⊢
 cases hp:place i with
 | none=>rw[hp] at h;cases h
 | some os=>
  obtain⟨off,size⟩:=os;rw[hp] at h;simp only at h ⊢;split at h
  ·cases h
  ·rename_i hn;rw[if_neg hn];simp only[zaa] at h;rw[h]
theorem qwc{e:Nat}{l:List CV}{i:Nat}{c:CV}(hu: ∀c∈l,(cell1 c).length=e)(hi:i<l.length)(hc:(cell1 c).length=e):
  qaf (.gen e (l.set i c))=qhi (qaf (.gen e l)) (i*e) ((cell1 c).map .cl):=by
 have hle:i*e+e<=l.length*e:=by have:=zcc e (zde hi);rwa [zcu] at this
 apply List.ext_getElem?;intro j;rw[qjo _ _ _ _ (by simp only[qaf,zam];rw[hc,qbl hu];exact hle)];simp only[qaf,zai,zam,qtt j hu hi hc,hc];split<;>rfl
theorem qtr{k:IntKind}{l:List Int}{i:Nat}{n:Int}(hi:i<l.length):qaf (.ints k (l.set i n))=qhi (qaf (.ints k l)) (i*1) [.cl (.int k n)]:=by simp only[qaf,qhi,zdr,List.map_set]
theorem qo9{P:Program}{E:Env}{w0:Base}{bl I0:Nat->Prop}{s:List (Nat×V)}{H:Heap}{a:Act}{w:World}{Im0:Nat->Prop}{ρ:Nat->Loc}{e:TypeId}{size:Nat}:
  ∀ {ps:List (Nat×V)} {qs:List (Nat×Value)} {row row':Rw} {u u':Upd} {cs:Array Value} {Im:Nat->Prop},qeb P H e row ps u=some (row',u')->qs.length=ps.length->
  (∀(j:Nat) (p:Nat×V) (q:Nat×Value),ps[j]? =some p->qs[j]? =some q->q.1=p.1/\VRep w Im0 ρ (shOf H) p.2 q.2)->Inv E w0 bl I0 s (updH H u) a w Im ρ->(∀b,Im0 b->Im b)->qc7 H (updH H u)->
  okR row->growing row=true->row.esz=size->Reps w Im ρ (shOf H) (qaf row) cs.toList->
  ∃cs' Im',Instr.fill (fun i=>some (i*size,size)) cs qs=some cs'/\Inv E w0 bl I0 s (updH H u') a w Im' ρ/\qc7 H (updH H u')/\okR row'/\growing row'=true/\row'.esz=size/\row'.len=row.len/\
   Reps w Im' ρ (shOf H) (qaf row') cs'.toList
 | [],qs,row,row',u,u',cs,Im,h,hl,hr,hI,hm,hsame,hok,hg,hes,hreps=>by
  cases qs with
  | cons=>simp at hl
  | nil=>
   simp only[qeb,zaa,zbh] at h;obtain⟨rfl,rfl⟩:=h;exact⟨cs,Im,rfl,hI,hsame,hok,hg,hes,rfl,hreps⟩
 | (i,v)::ps,qs,row,row',u,u',cs,Im,h,hl,hr,hI,hm,hsame,hok,hg,hes,hreps=>by
  cases qs with
  | nil=>simp at hl
  | cons q qs=>
   obtain⟨hq1,hq2⟩:=hr 0 (i,v) q rfl rfl;obtain⟨q1,q2⟩:=q;simp only at hq1 hq2;subst hq1;have htl: ∀(j:Nat) (p:Nat×V) (q:Nat×Value),ps[j]? =some p->qs[j]? =some q->q.1=p.1/\VRep w Im0 ρ (shOf H) p.2 q.2:=fun j p q hj hq=>hr (j+1) p q (by simpa using hj) (by simpa using hq);simp only[qeb] at h;split at h
   ·rename_i k l;split at h
    ·rename_i kb n;replace h:=qaa h;obtain⟨hc,h⟩:=h;simp only[zab] at hc;obtain⟨hk,hi⟩:=hc;obtain rfl:k=kb:=of_decide_eq_true hk;have hi:q1<l.length:=by simpa [zb8] using hi
     have hs1:size=1:=hes.symm;subst hs1;obtain⟨cs1,f1,f2⟩:=qph (w:=w) (Im:=Im) (ρ:=ρ) (S:=shOf H) (place:=fun i=>some (i*1,1)) (ps:=[(q1,.cl (.int k n))]) (qs:=[(q1,q2)]) (l:=qaf (.ints k l)) (l':=qaf (.ints k (l.set q1 n))) (cs:=cs)
      (by
       rw[qtr hi];have hc2:Nat.ble (q1*1+1) (qaf (.ints k l)).length=true:=by simp only[qaf,zam];simp;omega
       have hc1:qdx (.cl (.int k n))=[.cl (.int k n)]:=rfl;simp only[xbco,hc1,okV,hc2];rfl) rfl (fun j p q hj hq=>by
       cases j with
       | zero=>simp at hj hq;subst hj hq;exact⟨rfl,hq2.congr (fun _ _=>rfl) hm fun _ _=>.inr ⟨rfl,rfl⟩⟩
       | succ j=>simp at hj) hreps
     rw[q1d f1];obtain⟨cs',Im',r1,r2,r3,r4,r5,r6,r7,r8⟩:=qo9 (size:=1) h (by simpa using hl) htl hI hm hsame trivial rfl rfl f2;exact⟨cs',Im',r1,r2,r3,r4,r5,r6,by rw[r7];simp[Rw.len],r8⟩
    ·cases h
   ·rename_i es l;split at h
    ·rename_i c hcl;replace h:=qaa h;obtain⟨hc,h⟩:=h;simp only[zab] at hc;obtain⟨hel,hi⟩:=hc;have hi:q1<l.length:=by simpa [zb8] using hi
     have hse:es=size:=hes;subst hse;obtain⟨Im1,j1,j2,j3,j4⟩:=Inv.lockAll (reach H 4 v) (updH H u) Im hI fun q o hq=>hsame.fwd hq;have hob: ∀p o,qah H p=some o->ORep w Im ρ (shOf H) o.row (ρ p):=fun p o hp=>by obtain⟨o1,h1,h2⟩:=hsame.fwd hp;rw[<- h2, <- hsame.sh];exact hI.gam.ob p o1 h1
     have hcr:=qgp P hob j2 4 e v c q2 hcl (hq2.congr (fun _ _=>rfl) hm fun _ _=>.inr ⟨rfl,rfl⟩) (fun p hp o ho b x y hb=>j3 p hp o ho b x y hb);obtain⟨e1,e2⟩:=qex hel;have hle:q1*es+es<=l.length*es:=by have:=zcc es (zde hi);rwa [zcu] at this
     have hu: ∀c∈l,(cell1 c).length=es:=hok;obtain⟨cs1,f1,f2⟩:=qph (w:=w) (Im:=Im1) (ρ:=ρ) (S:=shOf H) (place:=fun i=>some (i*es,es)) (ps:=[(q1,.cl c)]) (qs:=[(q1,q2)]) (l:=qaf (.gen es l)) (l':=qaf (.gen es (l.set q1 c))) (cs:=cs)
      (by
       rw[qwc hu hi e2];simp only[xbco,e1];have hc1:Nat.beq (cell1 c).length es=true:=qag.2 e2;have hc2:Nat.ble (q1*es+es) (qaf (.gen es l)).length=true:=by simp only[qaf,zam];rw[qbl hu];simpa using hle
       simp[okV,hc1,hc2]) rfl (fun j p q hj hq=>by
       cases j with
       | zero=>simp at hj hq;subst hj hq;exact⟨rfl,.cl _ _ hcr⟩
       | succ j=>simp at hj) ⟨hreps.1,hreps.2.1,fun j c v hj hv=>(hreps.2.2 j c v hj hv).congr (fun _ _=>rfl) j2 fun _ _=>.inr ⟨rfl,rfl⟩⟩
     rw[q1d f1];obtain⟨cs',Im',r1,r2,r3,r4,r5,r6,r7,r8⟩:=qo9 (size:=es) h (by simpa using hl) htl (by rw[qes];exact j1) (fun b hb=>j2 b (hm b hb)) (by rw[qes];exact qck _ hsame)
      (fun d hd=>by
       rcases List.mem_or_eq_of_mem_set hd with hd|rfl
       ·exact hu d hd
       ·exact e2) rfl rfl f2
     exact⟨cs',Im',r1,r2,r3,r4,r5,r6,by rw[r7];simp[Rw.len],r8⟩
    ·cases h
   ·cases h
theorem qq6{P:Program}{β:Type}{E:Env}{w0:Base}{bl I0:Nat->Prop}{s:List (Nat×V)}{H:Heap}{a:Act}{w:World}{Im:Nat->Prop}{ρ:Nat->Loc}{t:TypeId}{n pos:Nat}{ps:List (Nat×V)}{qs:List (Nat×Value)}{k:V->Upd->Option β}{res:β}(h:qb2 P H t n pos ps k=some res)(hI:Inv E w0 bl I0 s H a w Im ρ)(hf:Free pos s H)(hl:qs.length=ps.length)(hr: ∀(j:Nat) (p:Nat×V) (q:Nat×Value),ps[j]? =some p->qs[j]? =some q->q.1=p.1/\VRep w Im ρ (shOf H) p.2 q.2):Does P E w0 bl I0 s H a w k res (Instr.buildSlice t n qs.toArray):=by
 unfold qb2 at h;split at h
 ·rename_i e hk;replace h:=qaa h;obtain⟨hsz,h⟩:=h;have hsz:n*qao P e<=16777216:=by simpa using hsz
  split at h
  ·rename_i row hrow;split at h
   ·rename_i r u hb;obtain⟨i,z,z1,z2,z3,z4,z5,z6,z7,z8,z9,z10,z11,z12,z13⟩:=qgi hrow;let cs0:Array Value:=(Array.range (n*qao P e)).map (z.cells[· % z.cells.size]!);have hcs0:Reps w Im ρ (shOf H) (qaf row) cs0.toList:=by
     have hg: ∀j,j<n*qao P e->∃v,z.cells[j % qao P e]? =some v/\cs0[j]? =some v:=fun j hj=>by
      have hm:j % qao P e<z.cells.size:=by rw[z4];exact zdo _ (zdc z5)
      refine⟨_,zba hm, ?_⟩;simp[cs0,hj,z4];rw[getElem!_pos z.cells _ hm]
     refine⟨by simp[cs0,z11],fun v hv=> ?_,fun j c v hj hv=> ?_⟩
     ·obtain⟨j,hj⟩:=zb3.1 hv;have hjl:j<n*qao P e:=by have:=(zae.1 hj).1;simpa [cs0] using this
      obtain⟨v',g1,g2⟩:=hg j hjl;rw[zcp,g2] at hj;simp only[zaa] at hj;subst hj;obtain⟨v2,q1,q2,_⟩:=z13 w Im ρ (shOf H) j _ (zad (by rw[z11];exact hjl));rw[g1] at q1;simp only[zaa] at q1;subst q1;exact q2
     ·have hjl:j<n*qao P e:=by have:=(zae.1 hj).1;omega
      obtain⟨v',g1,g2⟩:=hg j hjl;rw[zcp,g2] at hv;simp only[zaa] at hv;subst hv;obtain⟨v2,q1,_,q2⟩:=z13 w Im ρ (shOf H) j c hj;rw[g1] at q1;simp only[zaa] at q1;subst q1;exact q2
    obtain⟨cs,Im',f1,f2,f3,f4,f5,f6,f7,f8⟩:=qo9 hb hl hr hI (fun _ h=>h) (.refl H) z6 z8 z9 hcs0;have hcl:cs.size=n*qao P e:=by have:=f8.1;rw[qca f4 f5,f6,f7,z10] at this;simpa using this
    have hrun:(Instr.buildSlice t n qs.toArray).run P w=.ok (.slice (some ⟨w.heap.size,0,none⟩) n n) (w.alloc (.cells cs e)):=by
     have hnot: ¬(16777216<n*qao P e):=by omega
     have hfill:Instr.fill (fun i=>some (i*qao P e,qao P e)) cs0 qs=some cs:=f1;by_cases h0:n*qao P e=0
     ·have hn0:n=0:=by
       rcases Nat.mul_eq_zero.1 h0 with h|h
       ·exact h
       ·exact absurd h z5
      subst hn0;have hc0:cs0= #[]:=by simp[cs0]
      rw[hc0] at hfill;simp[Instr.buildSlice,run_underlying (qb5 hk),sizeOf,typeInfo,z1,z3,hfill,newRow,Array.range_zero']
     ·simp only[cs0,z4] at hfill;simp[Instr.buildSlice,run_underlying (qb5 hk),sizeOf,typeInfo,zeroValue,z1,z2,z3,z4,hnot,h0,hfill,newRow]
    refine qu5 f2 (f3.free hf) (row:=r) (cs:=cs) (el:=e) (fr:=(0,0)) h (by rw[qes];rfl) hrun rfl rfl rfl rfl f4 f5 (by rw[f7,z10]) f6 (zas _) (by rw[hcl];exact zas _) (by rw[qca f4 f5,f6,f7,z10,hcl];exact zas _) (fun i _ h=>by omega) fun j c hj=> ?_;rw[f3.sh];have hjl:j<cs.toList.length:=by rw[f8.1];exact(zae.1 hj).1
    have hg:=zad hjl;exact⟨_,by simp,f8.2.1 _ (zcd hjl),f8.2.2 j c _ hj hg⟩
   ·cases h
  ·cases h
 ·cases h
theorem qlw(f:Nat->Nat)(o:Obj):shp {o with row:=qgk f o.row}=shp o:=by obtain⟨r,l⟩:=o;cases r<;>simp[shp,qgk,Rw.len,Rw.esz,q47,qcq]
theorem qwb(f:Nat->Nat)(r:Rw):qaf (qgk f r)=(qaf r).map (renV f):=by
 cases r with
 | var l=>
  simp only[qgk,qaf];apply List.ext_getElem?;intro j;rw[qha,zai]
 | ints k l=>simp[qgk,qaf,renV]
 | arri n k l=>simp[qgk,qaf,renV]
 | gen e l=>simp[qgk,qaf,zdg,renV]
 | arrg n e l=>simp[qgk,qaf,zdg,renV]
theorem xbhh(f:Nat->Nat){r:Rw}(h:okR r):okR (qgk f r):=by cases r<;>first|exact h|trivial
theorem q45(f:Nat->Nat)(r:Rw):growing (qgk f r)=growing r:=by cases r<;>rfl
theorem xbok(f:Nat->Nat)(r:Rw):(qgk f r).len=r.len:=by cases r<;>rfl
theorem ORep.ren{w:World}{Im Im':Nat->Prop}{ρ ρ':Nat->Loc}{S S':Nat->Option Sh}{f:Nat->Nat}{r:Rw}{l:Loc}(h:ORep w Im ρ S r l)(hv: ∀(j:Nat) (c:V) (x:Value),(qaf r)[j]? =some c->VRep w Im ρ S c x->VRep w Im' ρ' S' (renV f c) x):ORep w Im' ρ' S' (qgk f r) l:=by
 cases l with
 | none=>exact⟨by rw[q45];exact h.1,by rw[xbok];exact h.2.1,xbhh f h.2.2⟩
 | some l=>
  obtain⟨b,base,lim⟩:=l;obtain⟨h1,h2,h3,h4,h5⟩:=h;refine⟨xbhh f h1,h2,by rw[qwb,zam];exact h3,h4,fun j c hj=> ?_⟩;rw[qwb,zai] at hj
  cases hd:(qaf r)[j]? with
  | none=>rw[hd] at hj;cases hj
  | some d=>
   rw[hd] at hj;simp only[zap,zaa] at hj;subst hj;obtain⟨v,v1,v2,v3⟩:=h5 j d hd;exact⟨v,v1,v2,hv j d v hd v3⟩
theorem Inv.join{E:Env}{w0:Base}{bl I0 bl' Ic:Nat->Prop}{s:List (Nat×V)}{H H' H2:Heap}{a:Act}{w w':World}{Im Im' Im2:Nat->Prop}{ρ ρ':Nat->Loc}{names:List Nat}{src:Nat->Option Nat}{f:Nat->Nat}(h:Inv E w0 bl I0 s H a w Im ρ)(hF:Fr w bl' w')(hG:Gam w.heap.size bl' Ic w' Im' ρ' H')(hbl: ∀b,bl' b->∃p∈names, ∃o x y,qah H p=some o/\o.lock=false/\ρ p=some (b,x,y))(hnm: ∀p∈names,(src p).isSome=true/\(qah H p).isSome=true)(hfree: ∀q j,src q=some j->q∈names\/Free q s H)(hfj: ∀q j,src q=some j->f j=q)(hst: ∀q j o o',src q=some j->qah H q=some o->qah H' j=some o'->shp o'=shp o/\ρ' j=ρ q)(h2a: ∀q j,src q=some j->qah H2 q=(qah H' j).map fun o=> {o with row:=qgk f o.row})(h2b: ∀q o2,src q=none->qah H2 q=some o2->∃o,qah H q=some o/\o2.row=o.row/\(o.lock=true->o2.lock=true))(h2c: ∀q,src q=none->qah H2 q=none->qah H q=none)(m1: ∀b,Im b->Im2 b)(m2: ∀b,Im2 b->b<w'.heap.size)(m3: ∀b,Im2 b->I0 b\/bl b\/w0.w.heap.size<=b)(m4: ∀j o b x y,qah H' j=some o->ρ' j=some (b,x,y)->(o.lock=true->Im2 b)/\(o.lock=false-> ¬Im2 b))(m5: ∀q o b x y,src q=none->qah H2 q=some o->ρ q=some (b,x,y)->(o.lock=true->Im2 b)/\(o.lock=false-> ¬Im2 b))(m6: ∀(k:Nat) (o:Obj) (j:Nat) (c:V) (x:Value),qah H' k=some o->(qaf o.row)[j]? =some c->VRep w' Im' ρ' (shOf H') c x->VRep w' Im2 (fun q=>match src q with|some j=>ρ' j|none=>ρ q) (shOf H2) (renV f c) x):
  Inv E w0 bl I0 s H2 a w' Im2 (fun q=>match src q with|some j=>ρ' j|none=>ρ q):=by
 have hblI: ∀b,bl' b-> ¬Im b/\(bl b\/w0.w.heap.size<=b):=fun b hb=>by obtain⟨p,_,o,x,y,h1,h2,h3⟩:=hbl b hb;exact(h.gam.lk p o b x y h1 h3).2.2 h2
 have hk:Keep Im w w':=fun b hi=>hF.block b (h.gam.im b hi) fun hx=>(hblI b hx).1 hi;have hrow2: ∀q o2,src q=none->qah H2 q=some o2->shOf H2 q=shOf H q:=fun q o2 hq h2=>by obtain⟨o,g1,g2,_⟩:=h2b q o2 hq h2;simp[shOf,h2,g1,shp,g2]
 have hv: ∀v x,(∀q j,src q=some j->q∉names->qda q v=false)->VRep w Im ρ (shOf H) v x->VRep w' Im2 (fun q=>match src q with|some j=>ρ' j|none=>ρ q) (shOf H2) v x:=fun v x hn hx=>by
  refine hx.congr hk m1 fun q hq=> ?_;show shOf H2 q=none\/(shOf H2 q=shOf H q/\(match src q with|some j=>ρ' j|none=>ρ q)=ρ q)
  cases hsq:src q with
  | none=>
   cases h2:qah H2 q with
   | none=>left;simp[shOf,h2]
   | some o2=>right;exact⟨hrow2 q o2 hsq h2,rfl⟩
  | some j=>
   by_cases hqn:q∈names
   ·obtain⟨o,ho⟩:=zbt.1 (hnm q hqn).2;have h2:=h2a q j hsq
    cases h3:qah H' j with
    | none=>left;rw[h3] at h2;simp[shOf,h2]
    | some o'=>
     right;rw[h3] at h2;obtain⟨g1,g2⟩:=hst q j o o' hsq ho h3;refine⟨?_,g2⟩;simp only[shOf,h2,ho,zap];rw[qlw,g1]
   ·have:=hn q j hsq hqn;rw[this] at hq;cases hq
 have hfr: ∀q j,src q=some j->q∉names->Free q s H:=fun q j hq hn=>(hfree q j hq).resolve_left hn;have hold: ∀q o b x y,src q=none->qah H q=some o->ρ q=some (b,x,y)-> ¬bl' b:=fun q o b x y hq ho hr hb=>by
  obtain⟨p,hp,o',x',y',h1,h2,h3⟩:=hbl b hb;have hne:p≠q:=fun e=>by subst e;have:=(hnm p hp).1;rw[hq] at this;cases this
  have:=(h.gam.dj p q o' o b x' y' x y h1 ho h3 hr hne).1;rw[h2] at this;cases this
 refine⟨⟨m2,fun b hb=>m1 b (h.gam.i0 b hb),fun q o hq=> ?_,fun q q' o o' b x y x' y' hq hq' hr hr' hne=> ?_,fun q o b x y hq hr=> ?_,m3⟩,
  ⟨hF.os.trans h.fr.os,hF.tape.trans h.fr.tape,hF.output.trans h.fr.output,zb7 h.fr.size hF.size,fun b hlt hn=> ?_⟩,
  fun t=>hv _ _ (fun q j hq hn=>(hfr q j hq hn).sl t) (h.sl t),h.nt,h.df.keep hk m1,fun g c hg=>(h.gl g c hg).keep hk m1,fun j o hj hg=> ?_⟩
 ·show ORep _ _ _ _ o.row (match src q with|some j=>ρ' j|none=>ρ q)
  cases hsq:src q with
  | none=>
   obtain⟨o1,g1,g2,_⟩:=h2b q o hsq hq;rw[g2];exact ORep.congr (h.gam.ob q o1 g1) (fun b x y hr=>hF.block b (by have hr:ρ q=some (b,x,y):=hr;have:=h.gam.ob q o1 g1;rw[hr] at this;exact this.lt) (hold q o1 b x y hsq g1 hr))
    fun j c x hj hx=>hv _ _ (fun q' j' hq' hn=>qco ((hfr q' j' hq' hn).ob q o1 g1) hj) hx
  | some j=>
   have h2:=h2a q j hsq;rw[hq] at h2
   cases h3:qah H' j with
   | none=>rw[h3] at h2;cases h2
   | some o'=>
    rw[h3] at h2;simp only[zap,zaa] at h2;subst h2;exact ORep.ren (hG.ob j o' h3) fun i c x hi hx=>m6 j o' i c x h3 hi hx
 ·have hcase: ∀q o b x y,qah H2 q=some o->(match src q with|some j=>ρ' j|none=>ρ q)=some (b,x,y)->
    (src q=none/\∃o1,qah H q=some o1/\ρ q=some (b,x,y)/\(o1.lock=true->o.lock=true))\/∃j o',src q=some j/\qah H' j=some o'/\ρ' j=some (b,x,y)/\o.lock=o'.lock:=fun q o b x y hq hr=>by
   cases hsq:src q with
   | none=>
    rw[hsq] at hr;obtain⟨o1,g1,g2,g3⟩:=h2b q o hsq hq;exact .inl ⟨rfl,o1,g1,hr,g3⟩
   | some j=>
    rw[hsq] at hr;have h2:=h2a q j hsq;rw[hq] at h2
    cases h3:qah H' j with
    | none=>rw[h3] at h2;cases h2
    | some o'=>
     rw[h3] at h2;simp only[zap,zaa] at h2;exact .inr ⟨j,o',rfl,h3,hr,by rw[h2]⟩
  have mix: ∀q o b x y q' o' x' y',qah H2 q=some o->qah H2 q'=some o'->(src q=none/\∃o1,qah H q=some o1/\ρ q=some (b,x,y)/\(o1.lock=true->o.lock=true))->
    (∃j o1,src q'=some j/\qah H' j=some o1/\ρ' j=some (b,x',y')/\o'.lock=o1.lock)->o.lock=true/\o'.lock=true:=fun q o b x y q' o' x' y' hq hq' ⟨h1,o1,g1,g2,g3⟩ ⟨j,o2,k1,k2,k3,k4⟩=>by
   have hl:o2.lock=true:=by
    cases hl:o2.lock with
    | true=>rfl
    | false=>
     rcases((hG.lk j o2 b x' y' k2 k3).2.2 hl).2 with hb|hb
     ·exact absurd hb (hold q o1 b x y h1 g1 g2)
     ·have:=(h.gam.lk q o1 b x y g1 g2).1;omega
   have hIm:=(m4 j o2 b x' y' k2 k3).1 hl;refine⟨?_,by rw[k4];exact hl⟩
   cases hlo:o.lock with
   | true=>rfl
   | false=>exact absurd hIm ((m5 q o b x y h1 hq g2).2 hlo)
  rcases hcase q o b x y hq hr with c1|c1
  ·rcases hcase q' o' b x' y' hq' hr' with c2|c2
   ·obtain⟨h1,o1,g1,g2,g3⟩:=c1;obtain⟨h1',o1',g1',g2',g3'⟩:=c2;have:=h.gam.dj q q' o1 o1' b x y x' y' g1 g1' g2 g2' hne;exact⟨g3 this.1,g3' this.2⟩
   ·exact mix q o b x y q' o' x' y' hq hq' c1 c2
  ·rcases hcase q' o' b x' y' hq' hr' with c2|c2
   ·exact(mix q' o' b x' y' q o x y hq' hq c2 c1).symm
   ·obtain⟨j,o1,g1,g2,g3,g4⟩:=c1;obtain⟨j',o1',g1',g2',g3',g4'⟩:=c2;have hjj:j≠j':=fun e=>by subst e;exact hne ((hfj q j g1).symm.trans (hfj q' j g1'))
    rw[g4,g4'];exact hG.dj j j' o1 o1' b x y x' y' g2 g2' g3 g3' hjj
 ·have hr:(match src q with|some j=>ρ' j|none=>ρ q)=some (b,x,y):=hr
  cases hsq:src q with
  | none=>
   rw[hsq] at hr;obtain⟨o1,g1,g2,g3⟩:=h2b q o hsq hq;have:=h.gam.lk q o1 b x y g1 hr;obtain⟨k1,k2⟩:=m5 q o b x y hsq hq hr;refine⟨zbc this.1 hF.size,k1,fun hl=>⟨k2 hl, ?_⟩⟩;have:o1.lock=false:=by
    cases hx:o1.lock with
    | false=>rfl
    | true=>rw[g3 hx] at hl;cases hl
   exact((h.gam.lk q o1 b x y g1 hr).2.2 this).2
  | some j=>
   rw[hsq] at hr;have h2:=h2a q j hsq;rw[hq] at h2
   cases h3:qah H' j with
   | none=>rw[h3] at h2;cases h2
   | some o'=>
    rw[h3] at h2;simp only[zap,zaa] at h2;have hl:o.lock=o'.lock:=by rw[h2]
    have:=hG.lk j o' b x y h3 hr;obtain⟨k1,k2⟩:=m4 j o' b x y h3 hr;rw[hl];refine⟨this.1,k1,fun hlo=>⟨k2 hlo, ?_⟩⟩;rcases(this.2.2 hlo).2 with hb|hb
    ·exact(hblI b hb).2
    ·right;have:=h.fr.size;omega
 ·have hlt':b<w.heap.size:=zbc hlt h.fr.size;rw[hF.block b hlt' fun hx=> ?_]
  ·exact h.fr.block b hlt hn
  ·rcases(hblI b hx).2 with h1|h1
   ·exact hn h1
   ·omega
 ·show w0.an j=some (shp o,match src j with|some i=>ρ' i|none=>ρ j)
  cases hsq:src j with
  | none=>
   obtain⟨o1,g1,g2,_⟩:=h2b j o hsq hg;rw[h.st j o1 hj g1];simp[shp,g2]
  | some i=>
   rcases hfree j i hsq with hn|hn
   ·obtain⟨o1,ho⟩:=zbt.1 (hnm j hn).2;have h2:=h2a j i hsq;rw[hg] at h2
    cases h3:qah H' i with
    | none=>rw[h3] at h2;cases h2
    | some o'=>
     rw[h3] at h2;simp only[zap,zaa] at h2;subst h2;obtain⟨g1,g2⟩:=hst j i o1 o' hsq ho h3;rw[h.st j o1 hj ho,qlw,g1];show some (shp o1,ρ j)=some (shp o1,ρ' i);rw[g2]
   ·have:=hn.big;omega
def qro:Nat->List (Option Obj)->Heap
 | _,[]=>[]
 | i,none::r=>qro (i+1) r
 | i,some o::r=>(i,o)::qro (i+1) r
theorem qen: ∀(l:List Obj) (i q:Nat),qah (heap0 i l) q=if i<=q then l[q - i]? else none
 | [],i,q=>by simp[heap0,qah]
 | o::r,i,q=>by
  simp only[heap0,qah]
  cases hb:Nat.beq i q with
  | true=>obtain rfl:=qag.1 hb;simp
  | false=>
   have hne:=qa1 hb;simp only[cond_false];rw[qen r (i+1) q];by_cases h:i<=q
   ·rw[if_pos (by omega),if_pos h,show q - i=(q - (i+1))+1 by omega];simp
   ·rw[if_neg (by omega),if_neg h]
theorem qft: ∀(l:List (Option Obj)) (i q:Nat),qah (qro i l) q=if i<=q then(l[q - i]?).bind id else none
 | [],i,q=>by simp[qro,qah]
 | none::r,i,q=>by
  simp only[qro];rw[qft r (i+1) q];by_cases h:i<=q
  ·by_cases h2:i=q
   ·subst h2;rw[if_neg (by omega),if_pos h];simp
   ·rw[if_pos (by omega),if_pos h,show q - i=(q - (i+1))+1 by omega];simp
  ·rw[if_neg (by omega),if_neg h]
 | some o::r,i,q=>by
  simp only[qro,qah]
  cases hb:Nat.beq i q with
  | true=>obtain rfl:=qag.1 hb;simp
  | false=>
   have hne:=qa1 hb;simp only[cond_false];rw[qft r (i+1) q];by_cases h:i<=q
   ·rw[if_pos (by omega),if_pos h,show q - i=(q - (i+1))+1 by omega];simp
   ·rw[if_neg (by omega),if_neg h]
def RepL(w:World)(Im:Nat->Prop)(ρ:Nat->Loc)(S:Nat->Option Sh)(l:List V)(vs:List Value):Prop:=
 vs.length=l.length/\∀(j:Nat) (c:V) (v:Value),l[j]? =some c->vs[j]? =some v->VRep w Im ρ S c v
def wrap:List Value->Value
 | [v]=>v
 | l=>.tuple l.toArray
structure Pre (glob:Nat->Option CV) (w:World) (Im:Nat->Prop) (ρ:Nat->Loc) (bl:Nat->Prop) (as:List V) (obs:List Obj) (vs:List Value):Prop where
 small:obs.length<=32
 reps:RepL w Im ρ (shOf (heap0 0 obs)) as vs
 gam:Gam w.heap.size bl Im w Im ρ (heap0 0 obs)
 gl: ∀g c,glob g=some c->CRep w Im (.vp c 0 0) (.pointer (some ⟨g,0,none⟩))
structure Post (w:World) (Im:Nat->Prop) (ρ:Nat->Loc) (bl:Nat->Prop) (obs:List Obj) (w':World) (Im':Nat->Prop) (ρ':Nat->Loc) (objs:List (Option Obj)):Prop where
 fr:Fr w bl w'
 gam:Gam w.heap.size bl Im w' Im' ρ' (qro 0 objs)
 st: ∀(j:Nat) (o o':Obj),obs[j]? =some o->objs[j]? =some (some o')->shp o'=shp o/\ρ' j=ρ j
def Ends(w:World)(Im:Nat->Prop)(ρ:Nat->Loc)(bl:Nat->Prop)(obs:List Obj)(out:Out)(e:Ending)(w':World):Prop:=
 match out with
 | .ret rs objs=> ∃us Im' ρ',e=.returned (wrap us)/\Post w Im ρ bl obs w' Im' ρ' objs/\RepL w' Im' ρ' (shOf (qro 0 objs)) rs us
 | .pan c objs=> ∃v Im' ρ',e=.panicked [{v,recovered:=false}]/\Post w Im ρ bl obs w' Im' ρ' objs/\CRep w' Im' c v
 | .yld _ _ _=>False
def Runs(P:Program)(g:FuncId)(vs:Array Value)(w:World)(R:Ending->World->Prop):Prop:=
 ((callFunc g vs).run P w=.ok (.enter g vs) w/\Calls P g vs w R)\/∃v w',(callFunc g vs).run P w=.ok (.value v) w'/\R (.returned v) w'
theorem Runs.mono{P:Program}{g:FuncId}{vs:Array Value}{w:World}{R R':Ending->World->Prop}(h:Runs P g vs w R)(hr: ∀e w',R e w'->R' e w'):Runs P g vs w R':=by
 rcases h with⟨h1,h2⟩|⟨v,w',h1,h2⟩
 ·exact .inl ⟨h1,h2.mono hr⟩
 ·exact .inr ⟨v,w',h1,hr _ _ h2⟩
def Sound(P:Program)(glob:Nat->Option CV)(g:FuncId)(S:FSpec):Prop:=
 ∀(as:List V) (obs:List Obj) (out:Out) (w:World) (Im:Nat->Prop) (ρ:Nat->Loc) (bl:Nat->Prop) (vs:List Value),S as obs=some out->Pre glob w Im ρ bl as obs vs->
  Runs P g vs.toArray w (Ends w Im ρ bl obs out)
def ctr(E:Env)(g:FuncId):FSpec:=fun as obs=>cond (E.pre g as obs) (E.orc g as obs).eval none
theorem xbm4{E:Env}{g:FuncId}{as:List V}{obs:List Obj}{out:Out}(h:E.pre g as obs=true)(h':(E.orc g as obs).eval=some out):ctr E g as obs=some out:=by unfold ctr;rw[h,h'];rfl
theorem qln{p:Nat}: ∀ {l:List Nat},p∈dedup l↔p∈l
 | []=>by simp[dedup]
 | q::r=>by
  simp only[dedup,zar,zdn,qln (l:=r),zao];constructor
  ·rintro(h|⟨h,_⟩)
   ·exact .inl h
   ·exact .inr h
  ·rintro(h|h)
   ·exact .inl h
   ·by_cases e:p=q
    ·exact .inl e
    ·refine .inr ⟨h, ?_⟩;rw[zau];intro hb;exact e (qag.1 hb).symm
theorem qer: ∀l:List Nat,(dedup l).Nodup
 | []=>by simp[dedup]
 | q::r=>by simp only[dedup,zcy];refine⟨fun h=> ?_,(qer r).filter _⟩;have:=(zdn.1 h).2;simp[zbi] at this
theorem qj6{H:Heap}: ∀ {l:List Nat} {obs:List Obj},qhh H l=some obs->obs.length=l.length/\∀(j p:Nat),l[j]? =some p->∃o,qah H p=some o/\obs[j]? =some o
 | [],obs,h=>by simp[qhh] at h;subst h;simp
 | p::r,obs,h=>by
  simp only[qhh] at h
  cases h1:qah H p with
  | none=>simp[h1] at h
  | some o=>
   cases h2:qhh H r with
   | none=>simp[h1,h2] at h
   | some l=>
    simp[h1,h2] at h;subst h;obtain⟨g1,g2⟩:=qj6 h2;refine⟨by simp[g1],fun j q hj=> ?_⟩
    cases j with
    | zero=>simp at hj;subst hj;exact⟨o,h1,rfl⟩
    | succ j=>simp at hj;simpa using g2 j q hj
theorem qmh: ∀ {l:List Nat} {i p:Nat},p∉l->qa9 l i p=63
 | [],i,p,_=>rfl
 | q::r,i,p,h=>by
  simp only[zar,not_or] at h;simp only[qa9]
  cases hb:Nat.beq p q with
  | true=>exact absurd (qag.1 hb) h.1
  | false=>exact qmh h.2
theorem qpk: ∀ {l:List Nat} {i j p:Nat},l.Nodup->l[j]? =some p->qa9 l i p=i+j
 | [],i,j,p,_,h=>by simp at h
 | q::r,i,0,p,_,h=>by simp at h;subst h;simp[qa9,zbi]
 | q::r,i,j+1,p,hn,h=>by
  simp only[za3] at h;simp only[qa9]
  cases hb:Nat.beq p q with
  | true=>
   obtain rfl:=qag.1 hb;exact absurd (zac h) (zcy.1 hn).1
  | false=>
   simp only[cond_false];rw[qpk (zcy.1 hn).2 h];omega
theorem qo4{P:Program}{H:Heap}{br:List Nat}: ∀ {l:List V} {i:Nat} {ts:List TypeId} {as:List V},q58 P H br i ts l=some as->as.length=l.length/\
  ∀(j:Nat) (v a:V),l[j]? =some v->as[j]? =some a->(a=v/\(∀q∈reach H 6 v,q∈qbu H br i l))\/∃t c,a=.cl c/\qbj P H 6 t v=some c/\(∀q∈reach H 6 v,q∈qbt H br i l)
 | [],i,ts,as,h=>by simp[q58] at h;subst h;simp
 | v::r,i,ts,as,h=>by
  simp only[q58] at h
  cases h1:q58 P H br (i+1) ts.tail r with
  | none=>simp[h1] at h
  | some l=>
   simp only[h1] at h;obtain⟨g1,g2⟩:=qo4 h1
   cases hb:br.any (Nat.beq i) with
   | true=>
    simp only[hb,cond_true,zaa] at h;subst h;refine⟨by simp[g1],fun j u a hu ha=> ?_⟩
    cases j with
    | zero=>
     simp at hu ha;subst hu ha;exact .inl ⟨rfl,fun q hq=>by simp[qbu,hb,hq]⟩
    | succ j=>
     simp at hu ha;rcases g2 j u a hu ha with⟨e,h⟩|⟨t,c,e,hc,h⟩
     ·exact .inl ⟨e,fun q hq=>by simp only[qbu,zak];exact .inr (h q hq)⟩
     ·exact .inr ⟨t,c,e,hc,fun q hq=>by simp only[qbt,zak];exact .inr (h q hq)⟩
   | false=>
    simp only[hb,cond_false] at h
    cases hc:qbj P H 6 (ts.headD 0) v with
    | none=>rw[hc] at h;cases h
    | some c=>
     rw[hc] at h;simp only[zaa] at h;subst h;refine⟨by simp[g1],fun j u a hu ha=> ?_⟩
     cases j with
     | zero=>
      simp at hu ha;subst hu ha;exact .inr ⟨_,c,rfl,hc,fun q hq=>by simp[qbt,hb,hq]⟩
     | succ j=>
      simp at hu ha;rcases g2 j u a hu ha with⟨e,h⟩|⟨t,c,e,hc,h⟩
      ·exact .inl ⟨e,fun q hq=>by simp only[qbu,zak];exact .inr (h q hq)⟩
      ·exact .inr ⟨t,c,e,hc,fun q hq=>by simp only[qbt,zak];exact .inr (h q hq)⟩
theorem qwr(names:List Nat)(pos:Nat)(f:Nat->Nat): ∀(objs:List (Option Obj)) (i:Nat) (H1:Heap),(∀a b,i<=a->a<i+objs.length->i<=b->b<i+objs.length->qdu names pos a=qdu names pos b->a=b)->
  ∀(q:Nat),(∀(j:Nat) (ob:Option Obj),objs[j]? =some ob->qdu names pos (i+j)=q->qah (updH H1 (qfm names pos f i objs)) q=ob.map fun o=> {o with row:=qgk f o.row})/\
   ((∀j,j<objs.length->qdu names pos (i+j)≠q)->qah (updH H1 (qfm names pos f i objs)) q=qah H1 q)
 | [],i,H1,_,q=>⟨fun j ob hj=>by simp at hj,fun _=>rfl⟩
 | ob::r,i,H1,hinj,q=>by
  have ih:=fun H1=>qwr names pos f r (i+1) H1 (fun a b ha hb ha' hb' e=>hinj a b (by omega) (by simp;omega) (by omega) (by simp;omega) e) q;have hstep: ∃H1',updH H1 (qfm names pos f i (ob::r))=updH H1' (qfm names pos f (i+1) r)/\qah H1' q=if q=qdu names pos i then ob.map fun o=> {o with row:=qgk f o.row} else qah H1 q:=by
   simp only[qfm]
   cases ob with
   | none=>exact⟨_,rfl,by rw[qb0];rfl⟩
   | some o=>exact⟨_,rfl,by rw[qar];rfl⟩
  obtain⟨H1',e1,e2⟩:=hstep;rw[e1];obtain⟨i1,i2⟩:=ih H1';constructor
  ·intro j o' hj hq
   cases j with
   | zero=>
    simp at hj;subst hj;rw[i2 fun j hjl e=>by
     have:=hinj i (i+1+j) (by omega) (by simp) (by omega) (by simp;omega) (by rw[e, <- hq];rfl);omega]
    rw[e2,if_pos (by rw[<- hq];rfl)]
   | succ j=>
    simp only[za3] at hj;exact i1 j o' hj (by rw[<- hq];congr 1;omega)
  ·intro hn;rw[i2 fun j hjl=>by
    have:=hn (j+1) (by simp;omega);rwa [show i+(j+1)=i+1+j by omega] at this]
   rw[e2,if_neg fun e=>hn 0 (by simp) (by rw[e];rfl)]
def ImC(Im:Nat->Prop)(H:Heap)(ρ:Nat->Loc)(lent:List Nat)(b:Nat):Prop:=Im b\/∃p∈lent, ∃o x y,qah H p=some o/\ρ p=some (b,x,y)
def blC(H:Heap)(ρ:Nat->Loc)(names:List Nat)(b:Nat):Prop:= ∃p∈names, ∃o x y,qah H p=some o/\o.lock=false/\ρ p=some (b,x,y)
def locC(ρ:Nat->Loc)(names:List Nat)(j:Nat):Loc:=match names[j]? with|some p=>ρ p|none=>none
theorem q7l{P:Program}{E:Env}{w0:Base}{bl I0:Nat->Prop}{s:List (Nat×V)}{H:Heap}{a:Act}{w:World}{Im:Nat->Prop}{ρ:Nat->Loc}{names lent:List Nat}{br:List Nat}{ts:List TypeId}{args as:List V}{obs:List Obj}{vs:List Value}(hI:Inv E w0 bl I0 s H a w Im ρ)(hargs:RepL w Im ρ (shOf H) args vs)(hn:names.Nodup)(hdis: ∀p∈names,p∉lent)(hsm:names.length<=28)(has:q58 P H br 0 ts args=some as)(hobs:qhh H names=some obs)(hbr: ∀q,q∈qbu H br 0 args->q∈names)(hle: ∀q,q∈qbt H br 0 args->q∈lent):
  Pre E.glob w (ImC Im H ρ lent) (locC ρ names) (blC H ρ names) (renL (qa9 names 0) as) (obs.map fun o=> {o with row:=qgk (qa9 names 0) o.row}) vs:=by
 obtain⟨ho1,ho2⟩:=qj6 hobs;have hat: ∀(j:Nat) (o':Obj),qah (heap0 0 (obs.map fun o=> {o with row:=qgk (qa9 names 0) o.row})) j=some o'->∃p o,names[j]? =some p/\qah H p=some o/\o'= {o with row:=qgk (qa9 names 0) o.row}/\locC ρ names j=ρ p:=fun j o' hj=>by
  rw[qen,if_pos (by omega),zcv,zai] at hj
  cases hob:obs[j]? with
  | none=>rw[hob] at hj;cases hj
  | some o=>
   rw[hob] at hj;simp only[zap,zaa] at hj;obtain⟨p,hp⟩:=getElem?_of_length (l:=obs) (vs:=names) ho1.symm hob;obtain⟨o2,h1,h2⟩:=ho2 j p hp;rw[hob] at h2;simp only[zaa] at h2;subst h2;exact⟨p,o,hp,h1,hj.symm,by simp[locC,hp]⟩
 have hto: ∀q,shOf (heap0 0 (obs.map fun o=> {o with row:=qgk (qa9 names 0) o.row})) (qa9 names 0 q)=none\/
   (shOf (heap0 0 (obs.map fun o=> {o with row:=qgk (qa9 names 0) o.row})) (qa9 names 0 q)=shOf H q/\locC ρ names (qa9 names 0 q)=ρ q):=fun q=>by
  by_cases hq:q∈names
  ·obtain⟨j,hj⟩:=zb3.1 hq;have hix:qa9 names 0 q=j:=by rw[qpk hn hj];omega
   rw[hix];obtain⟨o,h1,h2⟩:=ho2 j q hj;right;refine⟨?_,by simp[locC,hj]⟩;simp only[shOf,h1,qen,zcf,if_true,zcv,zai,h2,zap,qlw]
  ·left;rw[qmh hq];simp only[shOf,qen,zcf,if_true,zcv,zai];rw[zax (by omega)];rfl
 have hm: ∀b,Im b->ImC Im H ρ lent b:=fun b h=>.inl h;refine⟨by simp;omega,⟨?_, ?_⟩,⟨fun b hb=> ?_,fun b hb=>hb,fun j o' hj=> ?_,fun j j' o o' b x y x' y' hj hj' hr hr' hne=> ?_,fun j o b x y hj hr=> ?_,fun b hb=>.inl hb⟩,fun g c hg=>(hI.gl g c hg).keep (fun _ _=>rfl) hm⟩
 ·rw[qcq,(qo4 has).1];exact hargs.1
 ·intro j c v hj hv;rw[qha] at hj
  cases ha:as[j]? with
  | none=>rw[ha] at hj;cases hj
  | some u=>
   rw[ha] at hj;simp only[zap,zaa] at hj;subst hj;obtain⟨g1,g2⟩:=qo4 has;obtain⟨v0,hv0⟩:=getElem?_of_length (l:=as) (vs:=args) g1.symm ha;have hx:=hargs.2 j v0 v hv0 hv;rcases g2 j v0 u hv0 ha with⟨rfl,_⟩|⟨t,c,rfl,hc,hq⟩
   ·exact hx.ren (fun _ _=>rfl) hm fun q _=>hto q
   ·exact .cl _ _ (qgp P hI.gam.ob hm 6 t v0 c v hc hx fun p hp o ho b y z hb=>.inr ⟨p,hle p (hq p hp),o,y,z,ho,hb⟩)
 ·rcases hb with hb|⟨p,_,o,x,y,h1,h2⟩
  ·exact hI.gam.im b hb
  ·exact(hI.gam.lk p o b x y h1 h2).1
 ·obtain⟨p,o,h1,h2,rfl,h3⟩:=hat j o' hj;rw[h3];exact ORep.ren (hI.gam.ob p o h2) fun i c x hi hx=>hx.ren (fun _ _=>rfl) hm fun q _=>hto q
 ·obtain⟨p,u,h1,h2,rfl,h3⟩:=hat j o hj;obtain⟨p',u',h1',h2',rfl,h3'⟩:=hat j' o' hj';rw[h3] at hr;rw[h3'] at hr';have hpp:p≠p':=fun e=>by subst e;exact hne ((List.getElem?_inj (zae.1 h1).1 hn).1 (h1.trans h1'.symm))
  exact hI.gam.dj p p' u u' b x y x' y' h2 h2' hr hr' hpp
 ·obtain⟨p,u,h1,h2,rfl,h3⟩:=hat j o hj;rw[h3] at hr;have:=hI.gam.lk p u b x y h2 hr;refine⟨this.1,fun hl=>.inl (this.2.1 hl),fun hl=>⟨fun hb=> ?_,.inl ⟨p,zac h1,u,x,y,h2,hl,hr⟩⟩⟩;rcases hb with hb|⟨p',hp',o',x',y',g1,g2⟩
  ·exact(this.2.2 hl).1 hb
  ·have hne:p≠p':=fun e=>by subst e;exact hdis p (zac h1) hp'
   have:=(hI.gam.dj p p' u o' b x y x' y' h2 g1 hr g2 hne).1;have hl:u.lock=false:=hl;rw[hl] at this;cases this
def q5y(names:List Nat)(pos n q:Nat):Option Nat:=(List.range n).find? fun j=>Nat.beq (qdu names pos j) q
theorem qgf{names:List Nat}{pos n q j:Nat}(h:q5y names pos n q=some j):j<n/\qdu names pos j=q:=by have h1:=List.mem_of_find?_eq_some h;have h2:=List.find?_some h;exact⟨zb0.1 h1,qag.1 h2⟩
theorem qxm{names:List Nat}{pos n q:Nat}(h:q5y names pos n q=none): ∀j,j<n->qdu names pos j≠q:=fun j hj e=>by have:=List.find?_eq_none.1 h j (zb0.2 hj);rw[e,zbi] at this;exact this rfl
theorem xbbc{names:List Nat}{pos n:Nat}(hinj: ∀a b,a<n->b<n->qdu names pos a=qdu names pos b->a=b){j:Nat}(hj:j<n):q5y names pos n (qdu names pos j)=some j:=by
 cases h:q5y names pos n (qdu names pos j) with
 | none=>exact absurd rfl (qxm h j hj)
 | some i=>
  obtain⟨h1,h2⟩:=qgf h;rw[hinj i j h1 hj h2]
theorem xbjr{w:World}{Im:Nat->Prop}{c:CV}{v:Value}(h:CRep w Im c v): ∀ {w':World} {Im':Nat->Prop},q7r c=true->CRep w' Im' c v:=by
 induction h with
 | int k n=>intros;exact .int k n
 | bool b=>intros;exact .bool b
 | str s=>intros;exact .str s
 | nili=>intros;exact .nili
 | nilp=>intros;exact .nilp
 | nilfn=>intros;exact .nilfn
 | sli=>intro _ _ hf;cases hf
 | slg=>intro _ _ hf;cases hf
 | agg l vs h1 h2 _ ih=>
  intro w' Im' hf;refine .agg l vs h1 h2 fun j c v hj hv=>ih j c v hj hv ?_;have: ∀(l:List CV),q7r.flatL l=true->∀c∈l,q7r c=true:=fun l=>by
   induction l with
   | nil=>simp
   | cons d r ih=>
    intro h c hc;simp only[q7r.flatL,zab] at h;rcases zar.1 hc with rfl|hc
    ·exact h.1
    ·exact ih h.2 c hc
  exact this l (by simpa [q7r] using hf) c (zac hj)
 | aggi n k l h=>intros;exact .aggi n k l h
 | agga=>intro _ _ hf;cases hf
 | iface t c v _ ih=>intro w' Im' hf;exact .iface t c v (ih (by simpa [q7r] using hf))
 | fn=>intro _ _ hf;cases hf
 | vp=>intro _ _ hf;cases hf
 | any p v h=>intros;exact .any p v h
 | is=>intro _ _ hf;cases hf
theorem qep{H:Heap}: ∀(l:List Nat) (H1:Heap) (q:Nat),(q∈l->∀o,qah H q=some o->qah (updH H1 (lockAll H l)) q=some {o with lock:=true})/\(q∉l->qah (updH H1 (lockAll H l)) q=qah H1 q)
 | [],H1,q=>⟨fun h=>by simp at h,fun _=>rfl⟩
 | p::r,H1,q=>by
  refine⟨fun hq o ho=> ?_,fun hq=>qd3 _ _ hq⟩;by_cases hr:q∈r
  ·simp only[lockAll]
   cases hp:qah H p with
   | none=>exact(qep r H1 q).1 hr o ho
   | some ob=>exact(qep r _ q).1 hr o ho
  ·rcases zar.1 hq with rfl|h
   ·simp only[lockAll,ho,updH];rw[qd3 _ _ hr,qar,if_pos rfl]
   ·exact absurd h hr
theorem q08{E:Env}{w0:Base}{bl I0:Nat->Prop}{s:List (Nat×V)}{H:Heap}{a:Act}{w w':World}{Im Im':Nat->Prop}{ρ ρ':Nat->Loc}{names lent:List Nat}{pos:Nat}{obs:List Obj}{objs:List (Option Obj)}{flat mk:Bool}{f0:Nat->Nat}(hI:Inv E w0 bl I0 s H a w Im ρ)(hn:names.Nodup)(hdis: ∀p∈names,p∉lent)(hsm:names.length<=28)(hobs:qhh H names=some obs)(h63:qah H 63=none)(hp63: ∀i,pos+1000000*i≠63)(hl1:names.length<=objs.length)(hl2:objs.length<=names.length+cond mk 4 0)(hnew:mk=true->∀i,i<4->Free (pos+1000000*i) s H)(hpost:Post w (ImC Im H ρ lent) (locC ρ names) (blC H ρ names) (obs.map fun o=> {o with row:=qgk f0 o.row}) w' Im' ρ' objs)(hflat:flat=true->∀ob∈objs,xbc9 ob=true):
  ∃Im2 ρ2,Inv E w0 bl I0 s (updH H (cond flat [] (lockAll H lent)++qfm names pos (qcw names pos objs.length) 0 objs)) a w' Im2 ρ2/\
   ∀v x,VRep w' Im' ρ' (shOf (qro 0 objs)) v x->(flat=true->xbjq v=true)->
    VRep w' Im2 ρ2 (shOf (updH H (cond flat [] (lockAll H lent)++qfm names pos (qcw names pos objs.length) 0 objs))) (renV (qcw names pos objs.length) v) x:=by
 obtain⟨ho1,ho2⟩:=qj6 hobs;obtain⟨hF,hG,hst⟩:=hpost;have hnmem: ∀(j p:Nat),names[j]? =some p->qdu names pos j=p:=fun j p hj=>by simp[qdu,hj]
 have hnnew: ∀j,names.length<=j->j<objs.length->qdu names pos j=pos+1000000*(j - names.length)/\Free (qdu names pos j) s H/\mk=true:=fun j h1 h2=>by
  have hmk:mk=true:=by
   cases mk with
   | true=>rfl
   | false=>simp at hl2;omega
  subst hmk;have hl2:objs.length<=names.length+4:=hl2;have e:qdu names pos j=pos+1000000*(j - names.length):=by
   have:Nat.blt j 32=true:=by simp[zb8];omega
   simp[qdu,zax h1,this]
  exact⟨e,by rw[e];exact hnew rfl _ (by omega),rfl⟩
 have hnold: ∀j,j<names.length->qdu names pos j∈names/\names[j]? =some (qdu names pos j):=fun j hj=>by have:=zad hj;rw[hnmem j _ this];exact⟨zcd hj,this⟩
 have hobj: ∀p∈names, ∃o,qah H p=some o:=fun p hp=>by obtain⟨j,hj⟩:=zb3.1 hp;obtain⟨o,h,_⟩:=ho2 j p hj;exact⟨o,h⟩
 have hinj: ∀x y,x<objs.length->y<objs.length->qdu names pos x=qdu names pos y->x=y:=fun x y hx hy e=>by
  by_cases h1:x<names.length
  ·by_cases h2:y<names.length
   ·have e1:=(hnold x h1).2;have e2:=(hnold y h2).2;rw[e] at e1;exact(List.getElem?_inj h1 hn).1 (e1.trans e2.symm)
   ·obtain⟨o,ho⟩:=hobj _ (hnold x h1).1;have:=(hnnew y (by omega) hy).2.1.none;rw[<- e,ho] at this;cases this
  ·by_cases h2:y<names.length
   ·obtain⟨o,ho⟩:=hobj _ (hnold y h2).1;have:=(hnnew x (by omega) hx).2.1.none;rw[e,ho] at this;cases this
   ·have e1:=(hnnew x (by omega) hx).1;have e2:=(hnnew y (by omega) hy).1;omega
 have hout: ∀j,j<objs.length->qcw names pos objs.length j=qdu names pos j:=fun j hj=>by
  have:Nat.blt j objs.length=true:=by simpa [zb8] using hj
  simp[qcw,this]
 have hH': ∀j,qah (qro 0 objs) j=(objs[j]?).bind id:=fun j=>by rw[qft,if_pos (by omega),zcv]
 generalize hH1:updH H (cond flat [] (lockAll H lent))=H1;have hsame:qc7 H H1:=by
  rw[<- hH1]
  cases flat with
  | true=>exact .refl H
  | false=>exact qck _ (.refl H)
 have hH1in:flat=false->∀q∈lent, ∀o,qah H q=some o->qah H1 q=some {o with lock:=true}:=fun hf q hq o ho=>by rw[<- hH1,hf];exact(qep lent H q).1 hq o ho
 have hH1out:flat=true\/(∀q,q∉lent->qah H1 q=qah H q):=by
  cases flat with
  | true=>exact .inl rfl
  | false=>right;intro q hq;rw[<- hH1];exact(qep lent H q).2 hq
 have hH1f:flat=true->H1=H:=fun hf=>by rw[<- hH1,hf];rfl
 have hupd:=fun q=>qwr names pos (qcw names pos objs.length) objs 0 H1 (fun x y _ hx _ hy e=>hinj x y (by omega) (by omega) e) q;rw[qes,hH1];have h2a: ∀q j,q5y names pos objs.length q=some j->qah (updH H1 (qfm names pos (qcw names pos objs.length) 0 objs)) q=(qah (qro 0 objs) j).map fun o=> {o with row:=qgk (qcw names pos objs.length) o.row}:=fun q j hq=>by obtain⟨h1,h2⟩:=qgf hq;have hg:=zad h1;rw[(hupd q).1 j _ hg (by rw[za1];exact h2),hH',hg];rfl
 have h2n: ∀q,q5y names pos objs.length q=none->qah (updH H1 (qfm names pos (qcw names pos objs.length) 0 objs)) q=qah H1 q:=fun q hq=>
  (hupd q).2 fun j hj=>by rw[za1];exact qxm hq j hj
 have hI0: ∀b,Im b->Im' b:=fun b hb=>hG.i0 b (.inl hb);have hsn: ∀p∈names,(q5y names pos objs.length p).isSome=true:=fun p hp=>by obtain⟨j,hj⟩:=zb3.1 hp;have hjl:=(zae.1 hj).1;rw[<- hnmem j p hj,xbbc hinj (by omega)];rfl
 have h63':qah (updH H1 (qfm names pos (qcw names pos objs.length) 0 objs)) 63=none:=by
  cases hs:q5y names pos objs.length 63 with
  | none=>
   rw[h2n 63 hs]
   cases h1:qah H1 63 with
   | none=>rfl
   | some o=>obtain⟨o1,h,_⟩:=hsame.bwd h1;rw[h63] at h;cases h
  | some j=>
   obtain⟨h1,h2⟩:=qgf hs;by_cases hj:j<names.length
   ·obtain⟨o,ho⟩:=hobj _ (hnold j hj).1;rw[h2,h63] at ho;cases ho
   ·have:=(hnnew j (by omega) h1).1;rw[h2] at this;exact absurd this.symm (hp63 _)
 have hblC: ∀b,blC H ρ names b->bl b\/w0.w.heap.size<=b:=fun b ⟨p,_,o,x,y,h1,h2,h3⟩=>((hI.gam.lk p o b x y h1 h3).2.2 h2).2;have key: ∀Im2:Nat->Prop,(∀b,Im b->Im2 b)->(∀b,Im2 b->b<w'.heap.size)->(∀b,Im2 b->I0 b\/bl b\/w0.w.heap.size<=b)->
   (∀j o b x y,qah (qro 0 objs) j=some o->ρ' j=some (b,x,y)->(o.lock=true->Im2 b)/\(o.lock=false-> ¬Im2 b))->
   (∀q o b x y,q5y names pos objs.length q=none->qah H1 q=some o->ρ q=some (b,x,y)->(o.lock=true->Im2 b)/\(o.lock=false-> ¬Im2 b))->
   (∀v x,VRep w' Im' ρ' (shOf (qro 0 objs)) v x->(flat=true->xbjq v=true)->VRep w' Im2 (fun q=>match q5y names pos objs.length q with|some j=>ρ' j|none=>ρ q) (shOf (updH H1 (qfm names pos (qcw names pos objs.length) 0 objs))) (renV (qcw names pos objs.length) v) x)->
   Inv E w0 bl I0 s (updH H1 (qfm names pos (qcw names pos objs.length) 0 objs)) a w' Im2 (fun q=>match q5y names pos objs.length q with|some j=>ρ' j|none=>ρ q):=fun Im2 m1 m2 m3 m4 m5 m6=>by
  refine hI.join hF hG (fun b hb=>hb) (fun p hp=>⟨hsn p hp,by obtain⟨o,ho⟩:=hobj p hp;rw[ho];rfl⟩) (fun q j hq=> ?_) (fun q j hq=> ?_) (fun q j o o' hq ho ho'=> ?_) h2a (fun q o2 hq h2=> ?_) (fun q hq h2=> ?_) m1 m2 m3 m4 (fun q o b x y hq h2=>m5 q o b x y hq (by rw[<- h2n q hq];exact h2)) fun k o j c x hk hj hx=>m6 c x hx fun hf=> ?_
  ·obtain⟨h1,h2⟩:=qgf hq;by_cases hj:j<names.length
   ·left;rw[<- h2];exact(hnold j hj).1
   ·right;rw[<- h2];exact(hnnew j (by omega) h1).2.1
  ·obtain⟨h1,h2⟩:=qgf hq;rw[hout j h1,h2]
  ·obtain⟨h1,h2⟩:=qgf hq;by_cases hj:j<names.length
   ·have hnj:=(hnold j hj).2;rw[h2] at hnj;obtain⟨o1,g1,g2⟩:=ho2 j q hnj;rw[ho] at g1;simp only[zaa] at g1;subst g1;rw[hH'] at ho';have hgo:objs[j]? =some (some o'):=by
     cases hoj:objs[j]? with
     | none=>rw[hoj] at ho';cases ho'
     | some x=>rw[hoj] at ho';simp at ho';rw[ho']
    obtain⟨k1,k2⟩:=hst j {o with row:=qgk f0 o.row} o' (by rw[zai,g2];rfl) hgo;rw[qlw] at k1;exact⟨k1,by rw[k2];simp[locC,hnj]⟩
   ·have:=(hnnew j (by omega) h1).2.1.none;rw[h2,ho] at this;cases this
  ·rw[h2n q hq] at h2;obtain⟨o,g1,g2⟩:=hsame.bwd h2;refine⟨o,g1,g2,fun hl=> ?_⟩
   cases hfl:flat with
   | true=>rw[hH1f hfl,g1] at h2;simp only[zaa] at h2;rw[<- h2];exact hl
   | false=>
    by_cases hql:q∈lent
    ·rw[hH1in hfl q hql o g1] at h2;simp only[zaa] at h2;rw[<- h2]
    ·rcases hH1out with hx|hx
     ·rw[hfl] at hx;cases hx
     ·rw[hx q hql,g1] at h2;simp only[zaa] at h2;rw[<- h2];exact hl
  ·rw[h2n q hq] at h2
   cases h1:qah H q with
   | none=>rfl
   | some o=>obtain⟨o1,g,_⟩:=hsame.fwd h1;rw[h2] at g;cases g
  ·have hfo:=hflat hf (some o) (by
    rw[hH'] at hk
    cases hoj:objs[k]? with
    | none=>rw[hoj] at hk;cases hk
    | some y=>rw[hoj] at hk;simp at hk;subst hk;exact zac hoj)
   obtain⟨row,lock⟩:=o
   cases row with
   | ints kk l=>simp[qaf] at hj;obtain⟨n,_,rfl⟩:=hj;rfl
   | arri n kk l=>simp[qaf] at hj;obtain⟨n,_,rfl⟩:=hj;rfl
   | gen e l=>simp[xbc9] at hfo
   | arrg n e l=>simp[xbc9] at hfo
   | var l=>
    simp only[xbc9,zab] at hfo;exact zaj.1 hfo.2 c (zac hj)
 cases hfl:flat with
 | true=>
  have hpv: ∀v x,VRep w' Im' ρ' (shOf (qro 0 objs)) v x->(flat=true->xbjq v=true)->VRep w' Im (fun q=>match q5y names pos objs.length q with|some j=>ρ' j|none=>ρ q) (shOf (updH H1 (qfm names pos (qcw names pos objs.length) 0 objs))) (renV (qcw names pos objs.length) v) x:=fun v x hx hv=>by
   have hv:=hv hfl
   cases v with
   | cl c=>exact .cl _ _ (xbjr hx.closed hv)
   | _=>cases hv
  refine⟨Im,_,key Im (fun _ h=>h) (fun b hb=>zbc (hI.gam.im b hb) hF.size) hI.gam.imo (fun j o b x y hj hr=> ?_) (fun q o b x y hq h1 hr=> ?_) hpv,fun v x hx hv=>hpv v x hx fun _=>hv rfl⟩
  ·have hfo:=hflat hfl (some o) (by
    rw[hH'] at hj
    cases hoj:objs[j]? with
    | none=>rw[hoj] at hj;cases hj
    | some y=>rw[hoj] at hj;simp at hj;subst hj;exact zac hoj)
   have hlk:=(hG.lk j o b x y hj hr).2.2;have hul:o.lock=false:=by obtain⟨row,lock⟩:=o;simp only[xbc9,zab,zao] at hfo;exact hfo.1
   exact⟨fun h=>(by rw[hul] at h;cases h),fun _ hb=>(hlk hul).1 (hI0 b hb)⟩
  ·rw[hH1f hfl] at h1;have:=hI.gam.lk q o b x y h1 hr;exact⟨this.2.1,fun hl=>(this.2.2 hl).1⟩
 | false=>
  have hpv: ∀v x,VRep w' Im' ρ' (shOf (qro 0 objs)) v x->(flat=true->xbjq v=true)->VRep w' Im' (fun q=>match q5y names pos objs.length q with|some j=>ρ' j|none=>ρ q) (shOf (updH H1 (qfm names pos (qcw names pos objs.length) 0 objs))) (renV (qcw names pos objs.length) v) x:=fun v x hx _=>by
   refine hx.ren (fun _ _=>rfl) (fun _ h=>h) fun q _=> ?_;by_cases hq:q<objs.length
   ·have hsq:=xbbc hinj hq;rw[hout q hq];right;refine⟨?_,by simp[hsq]⟩;simp only[shOf,h2a _ q hsq,Option.map_map];congr 1;funext o;exact qlw _ o
   ·left;have:qcw names pos objs.length q=63:=by
     have:Nat.blt q objs.length=false:=by rw[zau];intro h;simp[zb8] at h;omega
     simp[qcw,this]
    rw[this];simp[shOf,h63']
  refine⟨Im',_,key Im' hI0 hG.im (fun b hb=> ?_) (fun j o b x y hj hr=> ?_) (fun q o b x y hq h1 hr=> ?_) hpv,fun v x hx _=>hpv v x hx fun h=>by rw[hfl] at h;cases h⟩
  ·rcases hG.imo b hb with(hb|⟨p,_,o,x,y,h1,h2⟩)|hb|hb
   ·exact hI.gam.imo b hb
   ·have:=hI.gam.lk p o b x y h1 h2
    cases hl:o.lock with
    | true=>exact hI.gam.imo b (this.2.1 hl)
    | false=>exact .inr (this.2.2 hl).2
   ·exact .inr (hblC b hb)
   ·right;right;have:=hI.fr.size;omega
  ·have:=hG.lk j o b x y hj hr;exact⟨this.2.1,fun hl=>(this.2.2 hl).1⟩
  ·obtain⟨o1,g1,g2⟩:=hsame.bwd h1;have hlk:=hI.gam.lk q o1 b x y g1 hr;by_cases hql:q∈lent
   ·rw[hH1in hfl q hql o1 g1] at h1;simp only[zaa] at h1;subst h1;exact⟨fun _=>hG.i0 b (.inr ⟨q,hql,o1,x,y,g1,hr⟩),fun h=>(by cases h)⟩
   ·rcases hH1out with hx|hx
    ·rw[hfl] at hx;cases hx
    ·rw[hx q hql,g1] at h1;simp only[zaa] at h1;subst h1;refine⟨fun hl=>hI0 b (hlk.2.1 hl),fun hl hb=> ?_⟩;rcases hG.imo b hb with(hb|⟨p,hp,o,x',y',h1,h2⟩)|⟨p,hp,o,x',y',h1,h2,h3⟩|hb
     ·exact(hlk.2.2 hl).1 hb
     ·have hne:p≠q:=fun e=>by subst e;exact hql hp
      have:=(hI.gam.dj p q o o1 b x' y' x y h1 g1 h2 hr hne).2;rw[hl] at this;cases this
     ·have hne:p≠q:=fun e=>by subst e;have:=hsn p hp;rw[hq] at this;cases this
      have:=(hI.gam.dj p q o o1 b x' y' x y h1 g1 h3 hr hne).2;rw[hl] at this;cases this
     ·omega
theorem xbmi{w:World}{Im:Nat->Prop}{ρ:Nat->Loc}{S:Nat->Option Sh}{l:List V}{us:List Value}(h:RepL w Im ρ S l us):VRep w Im ρ S (xbu3 l) (wrap us):=by
 obtain⟨h1,h2⟩:=h;unfold xbu3;split
 ·rename_i v
  cases us with
  | nil=>simp at h1
  | cons u r=>
   cases r with
   | cons=>simp at h1
   | nil=>exact h2 0 v u rfl rfl
 ·rename_i hn;have hw:wrap us=.tuple us.toArray:=by
   cases us with
   | nil=>rfl
   | cons u r=>
    cases r with
    | cons=>rfl
    | nil=>
     cases l with
     | nil=>simp at h1
     | cons v q=>
      cases q with
      | nil=>exact absurd rfl (hn v)
      | cons=>simp at h1
  rw[hw];exact .tup l us h1 h2
theorem xbc4{P:Program}{β:Type}{E:Env}{w0:Base}{bl I0:Nat->Prop}{s:List (Nat×V)}{H:Heap}{a:Act}{w:World}{Im:Nat->Prop}{ρ:Nat->Loc}{g:FuncId}{mk:Bool}{pos:Nat}{args:List V}{vs:List Value}{kv:V->Upd->Option β}{kp:CV->Upd->Option β}{r:β}(hE: ∀g,Sound P E.glob g (ctr E g))(h:q07 P E H g mk pos args kv kp=some r)(hI:Inv E w0 bl I0 s H a w Im ρ)(hargs:RepL w Im ρ (shOf H) args vs)(hp63: ∀i,pos+1000000*i≠63)(hnew:mk=true->∀i,i<4->Free (pos+1000000*i) s H):
  Runs P g vs.toArray w fun e w'=>(∃v u x Im' ρ',e=.returned x/\kv v u=some r/\Inv E w0 bl I0 s (updH H u) a w' Im' ρ'/\VRep w' Im' ρ' (shOf (updH H u)) v x)\/
   ∃c u x Im' ρ',e=.panicked [{v:=x,recovered:=false}]/\kp c u=some r/\Inv E w0 bl I0 s (updH H u) a w' Im' ρ'/\CRep w' Im' c x:=by
 unfold q07 at h;split at h
 ·cases h
 ·rename_i fn hfn;replace h:=qat h;obtain⟨hc,h⟩:=h;simp only[zcj] at hc;obtain⟨hd,hsm⟩:=hc;have hsm:(dedup (qbu H (E.byref g) 0 args)).length<=28:=by
   have: ¬(28<=(dedup (qbu H (E.byref g) 0 args)).length):=fun h=>by rw[zcq h] at hsm;cases hsm
   omega
  have hdis: ∀p∈dedup (qbu H (E.byref g) 0 args),p∉qbt H (E.byref g) 0 args:=fun p hp hq=>by have h1:=List.any_eq_false.1 hd p hp;exact h1 (zc8.2 ⟨p,hq,zbi p⟩)
  split at h
  ·rename_i as obs h63 has hobs;replace h:=qaa h;obtain⟨hpr,h⟩:=h;have hpre:=q7l hI hargs (qer _) hdis hsm has hobs (fun q hq=>qln.2 hq) (fun q hq=>hq);obtain⟨out,horc,h,_⟩:=qiu h
   cases out with
   | ret rs objs=>
    replace h:=qaa h;obtain⟨hlen,h⟩:=h;simp only[zab] at hlen;have hl1:=zb2 hlen.1;have hl2:=zb2 hlen.2;refine(hE g _ _ _ w _ _ _ vs (xbm4 hpr horc) hpre).mono fun e w' he=> ?_;obtain⟨us,Im',ρ',e1,hpost,hrep⟩:=he;left;obtain⟨Im2,ρ2,hI2,hv2⟩:=q08 (f0:=qa9 (dedup (qbu H (E.byref g) 0 args)) 0) (flat:=rs.all xbjq&&objs.all xbc9) hI (qer _) hdis hsm hobs h63 hp63 hl1 hl2 hnew hpost fun hf ob hob=>by simp only[zab] at hf;exact zaj.1 hf.2 ob hob
    refine⟨_,_,_,Im2,ρ2,e1,h,hI2,xbmi ⟨by rw[qcq];exact hrep.1,fun j c v hj hv=> ?_⟩⟩;rw[qha] at hj
    cases hu:rs[j]? with
    | none=>rw[hu] at hj;cases hj
    | some u=>
     rw[hu] at hj;simp only[zap,zaa] at hj;subst hj;exact hv2 u v (hrep.2 j u v hu hv) fun hf=>by simp only[zab] at hf;exact zaj.1 hf.1 u (zac hu)
   | pan c objs=>
    replace h:=qaa h;obtain⟨hlen,h⟩:=h;have hlen:=qag.1 hlen;refine(hE g _ _ _ w _ _ _ vs (xbm4 hpr horc) hpre).mono fun e w' he=> ?_;obtain⟨x,Im',ρ',e1,hpost,hrep⟩:=he;right;obtain⟨Im2,ρ2,hI2,hv2⟩:=q08 (f0:=qa9 (dedup (qbu H (E.byref g) 0 args)) 0) (mk:=mk) (flat:=q7r c&&objs.all xbc9) hI (qer _) hdis hsm hobs h63 hp63 (by omega) (by omega) hnew hpost fun hf ob hob=>by simp only[zab] at hf;exact zaj.1 hf.2 ob hob
    exact⟨_,_,x,Im2,ρ2,e1,h,hI2,(hv2 (.cl c) x (.cl _ _ hrep) fun hf=>by
     simp only[zab] at hf;exact hf.1).closed⟩
   | yld x f t=>cases h
  ·cases h
theorem Pure.does{P:Program}{β:Type}{E:Env}{w0:Base}{bl I0:Nat->Prop}{s:List (Nat×V)}{H:Heap}{a:Act}{w:World}{Im:Nat->Prop}{ρ:Nat->Loc}{k:V->Upd->Option β}{r:β}{run:Sem Value}(h:Pure P w Im ρ (shOf H) (fun v=>k v []) r run)(hI:Inv E w0 bl I0 s H a w Im ρ):Does P E w0 bl I0 s H a w k r run:=by obtain⟨v,val,h1,h2,h3⟩:=h;exact⟨v,[],val,w,Im,ρ,h1,h3,hI,h2⟩
theorem RepL.append{w:World}{Im:Nat->Prop}{ρ:Nat->Loc}{S:Nat->Option Sh}{C D:List V}{us vs:List Value}(h:RepL w Im ρ S C us)(g:RepL w Im ρ S D vs):RepL w Im ρ S (C++D) (us++vs):=by
 obtain⟨h1,h3⟩:=h;obtain⟨g1,g3⟩:=g;refine⟨by simp[h1,g1],fun j c v hj hv=> ?_⟩;by_cases hl:j<C.length
 ·rw[zaw hl] at hj;rw[zaw (by omega)] at hv;exact h3 j c v hj hv
 ·rw[zav (by omega)] at hj;rw[zav (by omega),h1] at hv;exact g3 _ c v hj hv
theorem qup{P:Program}{β:Type}{E:Env}{w0:Base}{bl I0:Nat->Prop}{s:List (Nat×V)}{H:Heap}{a:Act}{w:World}{Im:Nat->Prop}{ρ:Nat->Loc}{o:Oper}{k:V->Upd->Option β}{kp:CV->Upd->Option β}{r:β}{next:Act->World->Prop}{Q:Exit->Act->World->Prop}(hE: ∀g,Sound P E.glob g (ctr E g))(h:opK P E s H o k kp=some r)(hI:Inv E w0 bl I0 s H a w Im ρ)(hf: ∀p∈makes E o,Free p s H)(hk: ∀v u x w' Im' ρ',k v u=some r->Inv E w0 bl I0 s (updH H u) a w' Im' ρ'->VRep w' Im' ρ' (shOf (updH H u)) v x->next (a.put o.dst x) w')(hp: ∀c u x w' Im' ρ',kp c u=some r->Inv E w0 bl I0 s (updH H u) a w' Im' ρ'->CRep w' Im' c x->Q (.panic [{v:=x,recovered:=false}]) a w'):o.wp P a w next Q:=by
 have hv: ∀x:Operand,VRep w Im ρ (shOf H) (opd E s x) (a.eval x):=hI.opd;have fin: ∀run:Sem Value,Does P E w0 bl I0 s H a w k r run->(execOp a.eval o).run P w=(do pure (.value (<- run)):Sem Next).run P w->o.wp P a w next Q:=fun run ⟨v,u,val,w',Im',ρ',h1,h2,h3,h4⟩ he=>by refine qfr (w':=w') (v:=val) ?_ (hk v u val w' Im' ρ' h1 h3 h4);rw[he];simp[h2]
 have hob:=hI.gam.ob;have hparts: ∀(ps:Array (Nat×Operand)) (j:Nat) (p:Nat×V) (q:Nat×Value),(ps.toList.map fun p=>(p.1,opd E s p.2))[j]? =some p->(ps.toList.map fun p=>(p.1,a.eval p.2))[j]? =some q->q.1=p.1/\VRep w Im ρ (shOf H) p.2 q.2:=fun ps j p q hj hq=>by
  rw[zai] at hj hq
  cases hd:ps.toList[j]? with
  | none=>rw[hd] at hj;cases hj
  | some x=>
   rw[hd] at hj hq;simp only[zap,zaa] at hj hq;subst hj hq;exact⟨rfl,hv _⟩
 have hlist: ∀(ps:Array Operand),RepL w Im ρ (shOf H) (ps.toList.map (opd E s)) (ps.toList.map a.eval):=fun ps=>⟨by simp,fun j p q hj hq=>by
  rw[zai] at hj hq
  cases hd:ps.toList[j]? with
  | none=>rw[hd] at hj;cases hj
  | some x=>
   rw[hd] at hj hq;simp only[zap,zaa] at hj hq;subst hj hq;exact hv _⟩
 cases hop:o.op with
 | move x=>
  simp only[opK,hop] at h;exact qfr (by simp[execOp,hop]) (hk _ [] _ w Im ρ h hI (hv x))
 | assign x=>
  simp only[opK,hop] at h;split at h
  ·rename_i c hc;split at h
   ·rename_i e hke;split at h
    ·rename_i r0 hr0;obtain⟨i,z,z1,z2,z3,z4,z5,z6,z7,z8,z9,z10,z11,z12,z13⟩:=qgi hr0;have hx:=hv (.const c);rw[hc] at hx;have hval:a.eval (.const c)=.slice none 0 0:=by cases hx;rfl
     refine qfr (w':=w) (v:=.slice none 0 0) (by simp[execOp,hop,hval]) (hk _ _ _ w Im (put ρ (ql2 o) none) h (hI.virtual (hf _ (by simp[makes,hop])) z8 z10 z6) ?_);exact .refV (ql2 o) (shp ⟨r0,false⟩) true _ (by show shOf (qcg H _ _) _=_;rw[qc1,if_pos rfl]) (by simp[put]) (by show r0.len=0;exact z10) z9
    ·cases h
   ·cases h
  ·refine qfr (w':=w) ?_ (hk _ [] _ w Im ρ h hI (hv _));simp[execOp,hop]
 | pick c x y=>
  simp only[opK,hop] at h;split at h
  ·rename_i t hc;have hcv:=hv c;rw[hc] at hcv;have hcv:=hcv.bool
   cases t with
   | true=>exact qfr (v:=a.eval x) (by simp[execOp,hop,hcv,asBool]) (hk _ [] _ w Im ρ h hI (hv x))
   | false=>exact qfr (v:=a.eval y) (by simp[execOp,hop,hcv,asBool]) (hk _ [] _ w Im ρ h hI (hv y))
  ·cases h
 | alloc t=>
  simp only[opK,hop] at h;split at h
  ·rename_i z hz;obtain⟨val,hzv,hzr⟩:=qq3 (P:=P) (w:=w) (Im:=Im) (ρ:=ρ) (S:=shOf H) hz;refine fin _ (qrv h hI (hf _ (by simp[makes,hop])) hzv (xbcl hz _)) ?_;simp[execOp,hop,Instr.alloc,hzr]
  ·cases h
 | box t x=>
  simp only[opK,hop] at h;exact fin _ (qrv h hI (hf _ (by simp[makes,hop])) (hv x) (xbkx (hf _ (by simp[makes,hop])) x)) (by simp only[execOp,hop,Instr.box])
 | load t x=>
  simp only[opK,hop] at h;exact fin _ (Pure.does (qrr hob h (hv x)) hI) (by simp only[execOp,hop])
 | store t x y=>
  simp only[opK,hop] at h;obtain⟨u,w',Im',h1,h2,h3⟩:=q0r h hI (hv x) (hv y);exact xbcc (w':=w') (by simp[execOp,hop,h2]) (hk .undef u _ w' Im' ρ h1 h3 (.undef _))
 | nilCheck x=>
  simp only[opK,hop] at h;obtain⟨h1,h2⟩:=qw4 h (hv x);refine qfr (w':=w) (v:=a.eval x) ?_ (hk _ [] _ w Im ρ h1 hI (hv x));rcases h2 with⟨ad,h2⟩|⟨f,p,q,h2⟩
  ·simp[execOp,hop,h2]
  ·simp[execOp,hop,h2]
 | binOp op t x y yt=>
  simp only[opK,hop] at h;exact fin _ (Pure.does (q67 h (hv x) (hv y) x y) hI) (by simp only[execOp,hop])
 | unOp op t x=>
  simp only[opK,hop] at h;exact fin _ (Pure.does (xbfg h (hv x)) hI) (by simp only[execOp,hop])
 | convert src dst x=>
  simp only[opK,hop] at h;split at h
  ·rename_i e b hd hx;replace h:=qaa h;obtain⟨h1,h⟩:=h;split at h
   ·rename_i he;replace h:=qaa h;obtain⟨h2,h⟩:=h;have hxv:=hv x;rw[hx] at hxv;refine fin _ (q7h h hI (hf _ (by simp[makes,hop])) h1 hd he) ?_;simp only[execOp,hop,hxv.str]
   ·cases h
  ·rename_i b hd hx;have hxv:=hv x;rw[hx] at hxv;exact fin _ (Pure.does (q2y h hxv) hI) (by simp only[execOp,hop])
  ·rename_i hd _;exact fin _ (Pure.does (q98 hob hd h (hv x)) hI) (by simp only[execOp,hop])
  ·exact fin _ (Pure.does (q2y h (hv x)) hI) (by simp only[execOp,hop])
 | makeInterface t x=>
  simp only[opK,hop] at h;replace h:=qaa h;obtain⟨h1,h⟩:=h;split at h
  ·cases h
  ·cases h
  ·obtain⟨g1,g2⟩:=q95 (w:=w) h1 (hv x);exact fin _ (Pure.does ⟨_,_,h,g1,g2⟩ hI) (by simp only[execOp,hop])
 | makeFunc g x y=>
  simp only[opK,hop] at h;have hr:=xbp6 (f:=g) (hlist x).1 (hlist y).1 (hlist x).2 (hlist y).2;refine qfr (w':=w) ?_ (hk _ [] _ w Im ρ h hI hr);have e: ∀z:Array Operand,(z.toList.map a.eval).toArray=z.map a.eval:=fun z=>by apply zcw;simp
  rw[e,e];simp[execOp,hop,Instr.makeFunc]
 | makeSlice t n c=>
  simp only[opK,hop] at h;exact fin _ (quh h hI (hf _ (by simp[makes,hop])) (hv n) (hv c)) (by simp only[execOp,hop])
 | slice t x lo hi mx=>
  simp only[opK,hop] at h;split at h
  ·rename_i l hh hmx hl hhi;have hm:mx.map a.eval=none:=qmk hv hmx;refine fin _ (Pure.does (q97 hob h (hv x) (qmk hv hl) (qmk hv hhi)) hI) ?_;simp only[execOp,hop,hm]
  ·rename_i m hh hmx hl hhi;have hlo:lo.map a.eval=none:=qmk hv hl;refine fin _ (Pure.does (q5q h (hv x) (qmk hv hhi) (qmk hv hmx)) hI) ?_;simp only[execOp,hop,hlo]
  ·cases h
 | fieldAddr t x f=>
  simp only[opK,hop] at h;exact fin _ (Pure.does (qu2 h (hv x)) hI) (by simp only[execOp,hop])
 | field t x f=>
  simp only[opK,hop] at h;exact fin _ (Pure.does (q94 h (hv x)) hI) (by simp only[execOp,hop])
 | indexAddr t x i=>
  simp only[opK,hop] at h;exact fin _ (Pure.does (qu3 h (hv x) (hv i)) hI) (by simp only[execOp,hop])
 | index t x i=>
  simp only[opK,hop] at h;exact fin _ (Pure.does (q96 h (hv x) (hv i)) hI) (by simp only[execOp,hop])
 | build t ps=>
  simp only[opK,hop] at h;exact fin _ (Pure.does (q93 (qs:=ps.toList.map fun p=>(p.1,a.eval p.2)) h (by simp) (hparts ps)) hI) (by
   simp only[execOp,hop];congr 4;apply zcw;simp)
 | buildSlice t n ps=>
  simp only[opK,hop,xbgw] at h;exact fin _ (qq6 (qs:=ps.toList.map fun p=>(p.1,a.eval p.2)) h hI (hf _ (by simp[makes,hop])) (by simp) (hparts ps)) (by
   simp only[execOp,hop];congr 4;apply zcw;simp)
 | extract x i=>
  simp only[opK,hop] at h;exact fin _ (Pure.does (qz9 h (hv x)) hI) (by simp only[execOp,hop])
 | typeAssert x xt asserted ok=>
  simp only[opK,hop] at h;exact fin _ (Pure.does (q5p (xt:=xt) h (hv x)) hI) (by simp only[execOp,hop])
 | panic x=>
  simp only[opK,hop] at h;split at h
  ·rename_i t c hc;obtain⟨Im',j1,j2,j3,j4⟩:=Inv.lockAll (reach H 4 (opd E s x)) H Im hI fun q o hq=>⟨o,hq,rfl⟩;have hcr:=qgp P hob j2 4 0 _ _ (a.eval x) hc (hv x) j3;have hex: ∃y,a.eval x=.iface t y:=by generalize a.eval x=ev at hcr;cases hcr;exact⟨_,rfl⟩
   obtain⟨y,hy⟩:=hex;have hrun:(execOp a.eval o).run P w=.halt (.panic (a.eval x)) w:=by rw[hy];simp[execOp,hop,hy,Instr.panic,goPanic]
   unfold Oper.wp;rw[hrun];exact hp _ _ _ w Im' ρ h j1 hcr
  ·cases h
 | call c=>
  simp only[opK,hop] at h;split at h
  ·rename_i hcal;refine fin _ (Pure.does (xbk3 (ts:=c.argTypes) (ty:=o.type) h (hlist c.args).1 (hlist c.args).2) hI) ?_;have e:(c.args.toList.map a.eval).toArray=c.args.map a.eval:=by apply zcw;simp
   simp[execOp,hop,resolve,hcal,invoke,builtin,e]
  ·rename_i hcal;refine fin _ (Pure.does (xbk2 (ts:=c.argTypes) (ty:=o.type) h (hlist c.args).1 (hlist c.args).2) hI) ?_;have e:(c.args.toList.map a.eval).toArray=c.args.map a.eval:=by apply zcw;simp
   simp[execOp,hop,resolve,hcal,invoke,builtin,e]
  ·rename_i hcal;refine fin _ (Pure.does (xbk5 (ts:=c.argTypes) (ty:=o.type) h (hlist c.args).1 (hlist c.args).2) hI) ?_;have e:(c.args.toList.map a.eval).toArray=c.args.map a.eval:=by apply zcw;simp
   simp[execOp,hop,resolve,hcal,invoke,builtin,e]
  ·rename_i hcal;refine fin _ (Pure.does (xbk4 (ts:=c.argTypes) (ty:=o.type) h (hlist c.args).1 (hlist c.args).2) hI) ?_;have e:(c.args.toList.map a.eval).toArray=c.args.map a.eval:=by apply zcw;simp
   simp[execOp,hop,resolve,hcal,invoke,builtin,e]
  ·rename_i hcal;split at h
   ·rename_i t t2 x y hat hae;have hl:=hlist c.args;rw[hae] at hl;obtain⟨ax,ay,hav⟩: ∃ax ay,c.args.toList.map a.eval=[ax,ay]:=by
     have:=hl.1
     cases hm:c.args.toList.map a.eval with
     | nil=>rw[hm] at this;simp at this
     | cons u r=>
      cases r with
      | nil=>rw[hm] at this;simp at this
      | cons u2 r2=>
       cases r2 with
       | nil=>exact⟨u,u2,rfl⟩
       | cons=>rw[hm] at this;simp at this
    rw[hav] at hl;have hx:=hl.2 0 x ax rfl rfl;have hy:=hl.2 1 y ay rfl rfl;have e1:c.argTypes= #[t,t2]:=by apply zcw;simpa using hat
    have e2:c.args.map a.eval= #[ax,ay]:=by apply zcw;simpa using hav
    have go:qee P H t (ql2 o) x y k=some r->((∃e',P.underlying t2=some (.slice e'))\/∃b,y=.cl (.str b))->(∀b,y=.cl (.str b)->P.underlying t2=some .string)->o.wp P a w next Q:=fun h h1 h2=>by refine fin _ (q4r (ty:=o.type) h hI (hf _ (by simp[makes,hop,hcal])) hx hy h1 h2) ?_;simp[execOp,hop,resolve,hcal,invoke,builtin,e1,e2]
    split at h
    ·rename_i b hk2;exact go h (.inr ⟨b,rfl⟩) fun _ _=>qzv hk2
    ·rename_i e' hk2;replace h:=qat h;obtain⟨h1,h⟩:=h;refine go h (.inl ⟨_,qb5 hk2⟩) fun b hb=> ?_;rw[hb] at h1;cases h1
    ·cases h
   ·cases h
  ·rename_i f hcal;split at h
   ·rename_i g A B hfn;have hfv:=hv f;obtain⟨va,vb,hfe,hA,hB⟩: ∃va vb:List Value,a.eval f=.func (.func g) va.toArray vb.toArray/\RepL w Im ρ (shOf H) A va/\RepL w Im ρ (shOf H) B vb:=by
     generalize opd E s f=ov at hfv hfn;unfold fnOf at hfn;split at hfn
     ·simp only[zaa,zbh] at hfn;obtain⟨rfl,rfl,rfl⟩:=hfn;generalize a.eval f=ev at hfv
      cases hfv.closed with
      | fn _ _ _ va vb l1 l2 r1 r2=>
       refine⟨va,vb,rfl,⟨by simp[l1],fun j c v hj hx=> ?_⟩,⟨by simp[l2],fun j c v hj hx=> ?_⟩⟩
       ·rw[zai] at hj;obtain⟨d,hd,rfl⟩:=zaq.1 hj;exact .cl _ _ (r1 j d v hd hx)
       ·rw[zai] at hj;obtain⟨d,hd,rfl⟩:=zaq.1 hj;exact .cl _ _ (r2 j d v hd hx)
     ·simp only[zaa,zbh] at hfn;obtain⟨rfl,rfl,rfl⟩:=hfn;generalize a.eval f=ev at hfv
      cases hfv with
      | fn _ _ _ va vb l1 l2 r1 r2=>exact⟨va,vb,rfl,⟨l1,r1⟩,⟨l2,r2⟩⟩
     ·cases hfn
    have hargs:=(hA.append (hlist c.args)).append hB;have hmk: ∀i,i<4->(match f with|.func g=>E.keep g|_=>false)=true->Free (ql2 o+1000000*i) s H:=fun i hi hm=>by
     cases f with
     | func g'=>
      have hm:E.keep g'=true:=hm;have hmem: ∀p∈[ql2 o,ql2 o+1000000,ql2 o+2000000,ql2 o+3000000],Free p s H:=fun p hp=>hf p (by simp only[makes,hop,hcal,hm];exact hp);have:i=0\/i=1\/i=2\/i=3:=by omega
      rcases this with rfl|rfl|rfl|rfl
      ·exact hmem _ (by simp)
      ·exact hmem _ (by simp)
      ·exact hmem _ (by simp)
      ·exact hmem _ (by simp)
     | _=>cases hm
    have hrun:=xbc4 hE h hI hargs (fun i=>by unfold ql2;split<;>omega) (fun hm i hi=>hmk i hi hm);have hx:(execOp a.eval o).run P w=(callFunc g (va++c.args.toList.map a.eval++vb).toArray).run P w:=by
     have e:(va++c.args.toList.map a.eval++vb).toArray=va.toArray++c.args.map a.eval++vb.toArray:=by apply zcw;simp
     rw[e];simp[execOp,hop,resolve,hcal,hfe,Deferred.ofValue,invoke]
    unfold Oper.wp;rw[hx];rcases hrun with⟨h1,h2⟩|⟨v,w',h1,h2⟩
    ·rw[h1,Oper.upon_enter];refine h2.mono fun e w' he=> ?_;rcases he with⟨v,u,x,Im',ρ',rfl,g1,g2,g3⟩|⟨cc,u,x,Im',ρ',rfl,g1,g2,g3⟩
     ·exact hk v u x w' Im' ρ' g1 g2 g3
     ·exact hp cc u x w' Im' ρ' g1 g2 g3
    ·rw[h1,Oper.upon_value];rcases h2 with⟨v2,u,x,Im',ρ',e1,g1,g2,g3⟩|⟨cc,u,x,Im',ρ',e1,g1,g2,g3⟩
     ·cases e1;exact hk v2 u v w' Im' ρ' g1 g2 g3
     ·cases e1
   ·cases h
  ·cases h
 | _=>simp[opK,hop] at h
theorem qrf{α:Type}(n:Nat)(u v:α): ∀l:List (Nat×α),qcg (qcg l n u) n v=qcg l n v
 | []=>by simp[qcg,zbi]
 | (k,x)::r=>by
  simp only[qcg]
  cases hk:Nat.beq k n with
  | true=>simp[qcg,zbi]
  | false=>
   cases hb:Nat.blt n k with
   | true=>simp[qcg,zbi]
   | false=>simp only[cond_false,qcg,hk,hb,qrf n u v r]
theorem Reps.mono{w:World}{Im Im':Nat->Prop}{ρ:Nat->Loc}{S:Nat->Option Sh}{l:List V}{vs:List Value}(h:Reps w Im ρ S l vs)(hm: ∀b,Im b->Im' b):Reps w Im' ρ S l vs:=
 ⟨h.1,h.2.1,fun j c v hj hv=>(h.2.2 j c v hj hv).congr (fun _ _=>rfl) hm fun _ _=>.inr ⟨rfl,rfl⟩⟩
theorem Free.set{p q:Nat}{s:List (Nat×V)}{H:Heap}(h:Free p s H){o o':Obj}(hq:qah H q=some o)(ho:o'.row=o.row):Free p s (qcg H q o'):=by
 have hne:p≠q:=fun e=>by subst e;rw[h.none] at hq;cases hq
 refine⟨h.big,by rw[qar,if_neg hne];exact h.none,h.sl,fun x u hx=> ?_⟩;rw[qar] at hx;split at hx
 ·simp only[zaa] at hx;subst hx;rw[ho];exact h.ob q o hq
 ·exact h.ob x u hx
theorem Inv.poke{E:Env}{w0:Base}{bl I0:Nat->Prop}{s:List (Nat×V)}{H:Heap}{a:Act}{w w':World}{Im:Nat->Prop}{ρ:Nat->Loc}(h:Inv E w0 bl I0 s H a w Im ρ){p:Nat}{row:Rw}(hp:qah H p=some ⟨row,false⟩){b base lim off:Nat}(hr:ρ p=some (b,base,lim)){vs:List Value}(hw:SetAt w b (base+off) vs w')(hoff:(qaf row).length<=off):Inv E w0 bl I0 s H a w' Im ρ:=by
 obtain⟨hlt,_,hlk⟩:=h.gam.lk p _ b base lim hp hr;obtain⟨hnI,hbl⟩:=hlk rfl;have hf:=Fr.ofSet hw;have hk:Keep Im w w':=fun c hi=>hf.block c (h.gam.im c hi) fun e=>by subst e;exact hnI hi
 have hv: ∀v x,VRep w Im ρ (shOf H) v x->VRep w' Im ρ (shOf H) v x:=fun v x hx=>hx.congr hk (fun _ h=>h) fun q _=>.inr ⟨rfl,rfl⟩;refine⟨⟨fun c hi=>by have:=h.gam.im c hi;have:=hf.size;omega,h.gam.i0,fun q o hq=> ?_,h.gam.dj,fun q o c x y hq hrq=> ?_,h.gam.imo⟩,
  ⟨hf.os.trans h.fr.os,hf.tape.trans h.fr.tape,hf.output.trans h.fr.output,zb7 h.fr.size hf.size,fun c hlt' hn=> ?_⟩,
  fun t=>hv _ _ (h.sl t),h.nt,h.df.keep hk (fun _ h=>h),fun g c hg=>(h.gl g c hg).keep hk (fun _ h=>h),h.st⟩
 ·by_cases e:q=p
  ·subst e;rw[hp] at hq;simp only[zaa] at hq;subst hq;have hO:=h.gam.ob q _ hp;rw[hr] at hO ⊢;obtain⟨o1,o2,o3,o4,o5⟩:=hO;refine⟨o1,by rw[hw.size];exact o2,o3,fun i hi=> ?_,fun j c hj=> ?_⟩
   ·obtain⟨c1,c2⟩:=o4 i hi;refine⟨?_,by rw[hw.fz];exact c2⟩;by_cases hin:base+i<base+off\/base+off+vs.length<=base+i
    ·rw[hw.cout _ hin];exact c1
    ·have:base+i=base+off+(i - off):=by omega
     rw[this,hw.cin (i - off) _ (zad (by omega))];rfl
   ·obtain⟨v,v1,v2,v3⟩:=o5 j c hj;have hjl:j<(qaf row).length:=(zae.1 hj).1;exact⟨v,by rw[hw.cout _ (.inl (by omega))];exact v1,v2,hv _ _ v3⟩
  ·refine ORep.congr (h.gam.ob q o hq) (fun c x y hrq=>hw.block c fun e'=> ?_) fun j c x hj hx=>hv _ _ hx;subst e';have:=(h.gam.dj q p o _ c x y base lim hq hp hrq hr e).2;cases this
 ·have:=h.gam.lk q o c x y hq hrq;exact⟨zbc this.1 hf.size,this.2⟩
 ·have hlt2:c<w.heap.size:=zbc hlt' h.fr.size;rw[hf.block c hlt2 fun e=> ?_]
  ·exact h.fr.block c hlt' hn
  ·subst e;rcases hbl with h1|h1
   ·exact hn h1
   ·omega
theorem q4v{r:Rw}(hok:okR r)(hv: ∀l,r≠.var l):(qaf r).length=r.len*r.esz:=by
 cases r with
 | ints k l=>simp[qaf,Rw.len,Rw.esz]
 | gen e l=>simp only[qaf,Rw.len,Rw.esz,zam];exact qbl hok
 | arri n k l=>simp only[qaf,Rw.len,Rw.esz,zam,zdr];exact hok
 | arrg n e l=>simp only[qaf,Rw.len,Rw.esz,zam];rw[qbl hok.2,hok.1]
 | var l=>exact absurd rfl (hv l)
theorem qo3{P:Program}{β:Type}{E:Env}{w0:Base}{bl I0:Nat->Prop}{s:List (Nat×V)}{H:Heap}{a:Act}{w:World}{Im:Nat->Prop}{ρ:Nat->Loc}{st t2 ty:TypeId}{x y:V}{ax ay:Value}{pos:Nat}{k:V->Upd->Option β}{res:β}(h:qzc P H st pos x y k=some res)(hI:Inv E w0 bl I0 s H a w Im ρ)(hf:Free pos s H)(hx:VRep w Im ρ (shOf H) x ax)(hy:VRep w Im ρ (shOf H) y ay)(hk2: ∃e',P.underlying t2=some (.slice e'))(hns: ∀b,y≠.cl (.str b)):
  Does P E w0 bl I0 s H a w k res (Builtin.append_ #[st,t2] ty #[ax,ay]):=by
 unfold qzc at h;split at h
 ·rename_i e hk;split at h
  ·rename_i r0 ry hr0 hry;obtain⟨i,z,z1,z2,z3,z4,z5,z6,z7,z8,z9,z10,z11,z12,z13⟩:=qgi hr0;have ht:=qb5 hk;split at h
   ·rename_i p o len es;split at h
    ·rename_i row hp;split at h
     ·rename_i rx hwin;split at h
      ·rename_i r har;replace h:=qaa h;obtain⟨h1,h⟩:=h;replace h:=qaa h;obtain⟨h2,h⟩:=h;replace h:=qaa h;obtain⟨h3,h⟩:=h;replace h:=qaa h;obtain⟨h0,h⟩:=h;have h1:=qag.1 h1;have h2:=q5d h2;have h3:=q5d h3;have h0:1<=ry.len:=zb2 h0;obtain⟨a1,a2⟩:=qko har;obtain⟨hoky,hgy,news,hs,hn⟩:=xbie hI.gam.ob hry hy z5 (.inl hk2) (fun b hb=>absurd hb (hns b)) (a1.imp (fun e=>by rw[e, <- a2,h1]) id);have hS:shOf H p=some (shp ⟨row,false⟩):=by simp[shOf,hp]
       have hO:=hI.gam.ob p _ hp;have grow: ∀ {w1:World} {ax:Value} {base:Option Addr} {cap:Nat} {olds:List Value},w1=w->ax=.slice base rx.len cap->okR rx->growing rx=true->
         (∀w',(∀A,w'.cell? A=w.cell? A)->(Builtin.firstCells (qao P e) rx.len (.slice base rx.len cap)).run P w'=.ok olds.toArray w')->Reps w Im ρ (shOf H) (qaf rx) olds->cap<rx.len+ry.len->
         Does P E w0 bl I0 s H a w k res (Builtin.append_ #[st,t2] ty #[ax,ay]):=fun {w1 ax base cap olds} _ hax x1 x2 hold ho hcap=>by
        subst hax;obtain⟨Im1,hL,m1,m2,m3⟩:=hI.lock hp;have hg:=qog (s:=s) (H:=H) (ty:=ty) (k:=fun v u=>some (v,u)) (res:=(V.ref pos 0 r.len true (qao P e),[(p,some ⟨row,true⟩),(pos,some ⟨r,false⟩)])) hL (hf.set hp rfl) ht z1 z2 z3 z4 har x1 x2 hoky h1 rfl rfl
         hold ((ho.mono m1).any x2) ((hn.mono m1).any hgy) hs hcap h2 h3
        obtain⟨v,u,val,w',Im',ρ',g1,g2,g3,g4⟩:=hg;simp only[zaa,zbh] at g1;obtain⟨rfl,rfl⟩:=g1;have hgp:qah (updH H [(p,some ⟨row,true⟩),(pos,some ⟨r,false⟩)]) pos=some ⟨r,false⟩:=by show qah (qcg (qcg H p _) pos _) pos=_;rw[qar,if_pos rfl]
        obtain⟨Im2,k1,k2,k3,k4⟩:=g3.lock hgp;have e1:qcg (updH H [(p,some ⟨row,true⟩),(pos,some ⟨r,false⟩)]) pos ⟨r,true⟩=updH H [(p,some ⟨row,true⟩),(pos,some ⟨r,true⟩)]:=qrf _ _ _ _;rw[show({(⟨r,false⟩:Obj) with lock:=true}:Obj)=⟨r,true⟩ from rfl,e1] at k1;have hS2:shOf (updH H [(p,some ⟨row,true⟩),(pos,some ⟨r,true⟩)])=shOf (updH H [(p,some ⟨row,true⟩),(pos,some ⟨r,false⟩)]):=by funext q;show shOf (qcg (qcg H p ⟨row,true⟩) pos ⟨r,true⟩) q=shOf (qcg (qcg H p ⟨row,true⟩) pos ⟨r,false⟩) q;simp only[qc1];rfl
        exact⟨_,_,val,w',Im2,ρ',h,g2,k1,by rw[hS2];exact g4.congr (fun _ _=>rfl) k2 fun _ _=>.inr ⟨rfl,rfl⟩⟩
       cases hx with
       | refN _ _ _ _ _ _ _ h0 _ _=>rw[hS] at h0;cases h0
       | refV _ s' _ _ q1 q2 q3 q4=>
        rw[hS] at q1;simp only[zaa] at q1;subst q1;rw[q2] at hO;have q3:row.len=0:=q3;obtain⟨x1,x2,x3,x4,x5⟩:=qe6 hwin hO.2.2 (by omega) (fun _=>by omega);have hc0:qaf rx=[]:=by have:=qca x1 x2;rw[x4,zc1] at this;exact zcb.1 this
        exact grow (base:=none) (cap:=0) (olds:=[]) rfl (by rw[x4]) x1 x2 (fun w' _=>run_firstCells_none w' _ _ _ _) (by rw[hc0];exact⟨rfl,by simp,by simp⟩) (by omega)
       | ref _ _ _ _ _ s' b base lim ad cap q1 q2 q3 q4 q5 q6 q7 q8=>
        rw[hS] at q1;simp only[zaa] at q1;subst q1;have hO':=hO;rw[q2] at hO;have q3:row.esz=es:=q3;have q5:o+len<=row.len:=q5;have q6:o+len=row.len:=q6 rfl;obtain⟨x1,x2,x3,x4,x5⟩:=qe6 hwin hO.1 q5 (fun _=>q6);obtain⟨olds,n1,n2⟩:=qm8 hwin q5 (fun _=>q6) hO;obtain⟨g1,g2,g3,g4,g5,g6,g7⟩:=qet har x1 hoky;have hes:es=qao P e:=by rw[<- q3, <- x3, <- g3,h1]
        subst hes;have hcl:(o+cap)*qao P e=o*qao P e+cap*qao P e:=zda ..;have hx1:(qaf rx).length=len*qao P e:=by rw[qca x1 x2,x4,x3,q3]
        have hr1:(qaf r).length=r.len*qao P e:=by rw[qca g1 g2,h1]
        rw[q3] at n2;have hoa: ∀(j:Nat) (v:Value),olds[j]? =some v->w.cell? (ad.add j)=some v:=fun j v hj=>by
         have hjl:=(zae.1 hj).1;rw[n1.1,hx1] at hjl;have hlp:len≠0:=fun e=>by subst e;simp at hjl
         rw[q7 (by omega),qdw];exact n2 j v hj
        by_cases hroom:len+ry.len<=cap
        ·have hrc:r.len<=cap:=by rw[g4,x4];exact hroom
         have hlimr:r.len*qao P e<=cap*qao P e:=zcc _ hrc;have hnl:news.length=ry.len*qao P e:=hs.newsLen;have hsum:r.len*qao P e=len*qao P e+ry.len*qao P e:=by rw[g4,x4,zda]
         have hcap0:cap≠0:=by omega
         have had:=q7 hcap0;subst had;have hex: ∀j,j<news.length->(w.cell? ⟨b,base+o*qao P e+len*qao P e+j,none⟩).isSome=true/\w.frozen? ⟨b,base+o*qao P e+len*qao P e+j,none⟩=false:=fun j hj=>by have:=hO.2.2.2.1 (o*qao P e+len*qao P e+j) (by omega);rwa [show base+(o*qao P e+len*qao P e+j)=base+o*qao P e+len*qao P e+j by omega] at this
         have hrun:=run_append_room_src (P:=P) w st t2 ty e i ht z1 b (base+o*qao P e) len cap ay ry.len news (by rw[z3];exact hs) hroom (fun j hj=>by rw[z3];exact(hex j hj).1) (fun j hj=>by rw[z3];exact(hex j hj).2);rw[z3, <- x4, <- g4] at hrun;rw[x4] at hrun;have hset:=qne (w:=w) (b:=b) news (base+(o*qao P e+len*qao P e)) (fun j hj=>by have:=(hex j hj).1;rwa [<- zbn]);have hrowl:(qaf row).length=o*qao P e+len*qao P e:=by rw[<- zda,q6];rw[q4v hO.1 (fun l e=>by subst e;simp[Rw.window] at hwin),q3]
         rw[<- zbn] at hset;have hI1:=hI.poke hp q2 (off:=o*qao P e+len*qao P e) (by rw[<- zbn];exact hset) (by omega);obtain⟨Im1,hL,m1,m2,m3⟩:=hI1.lock hp;have hbI:Im1 b:=m2 b base lim q2;have hO1:=hI1.gam.ob p _ hp;rw[q2] at hO1;have hnI:=((hI.gam.lk p _ b base lim hp q2).2.2 rfl).1;have up: ∀ {r:Rw} {j:Nat} {c:V} {v:Value},growing r=true->(qaf r)[j]? =some c->VRep w Im ρ (shOf H) c v->VRep _ Im1 ρ (shOf (qcg H p ⟨row,true⟩)) c v:=fun {r j c v} hg hj hv=>
          hv.congr (fun d hd=>hset.block d fun e=>by subst e;exact hnI hd) m1 fun x hx=>by have:=qco (p:=x) (r:=r) (fun l e=>by subst e;cases hg) hj;rw[this] at hx;cases hx
         have hpl:=hL.placeG (lk:=true) (hf.set hp rfl) (r:=r) (b:=b) (base:=base+o*qao P e) (lim:=lim - o*qao P e) hO1.2.1 (fun _=>hbI) (fun h=>by cases h) (fun q ob x' y' hq hrq=>⟨rfl, ?_⟩) g1 (by omega) (fun j hj=> ?_) (fun l e=>by subst e;cases g2) fun j c hj=> ?_
         ·refine⟨_,_,_,_,Im1,_,h,hrun,hpl, ?_⟩;show VRep _ Im1 _ (shOf (qcg (qcg H p ⟨row,true⟩) pos ⟨r,true⟩)) _ _;exact .ref pos 0 r.len true (qao P e) (shp ⟨r,true⟩) b (base+o*qao P e) (lim - o*qao P e) _ cap (by rw[qc1,if_pos rfl]) (by simp[put]) h1 hrc (by simp[shp]) (fun _=>by simp[shp]) (fun h=>by simp) (by rw[za1];omega)
         ·rw[qar] at hq;split at hq
          ·simp only[zaa] at hq;subst hq;rfl
          ·rename_i hne;have:=(hI.gam.dj q p ob _ b x' y' base lim hq hp hrq q2 hne).2;cases this
         ·have:=hO1.2.2.2.1 (o*qao P e+j) (by omega);rwa [<- zbn] at this
         ·rw[g5] at hj;by_cases hjx:j<(qaf rx).length
          ·rw[zaw hjx] at hj;have hjl:j<olds.length:=by rw[n1.1];exact hjx
           have hgj:=zad hjl;exact⟨_,by rw[hset.cout _ (.inl (by omega))];exact n2 j _ hgj,n1.2.1 _ (zcd hjl),up (r:=rx) x2 hj (n1.2.2 j c _ hj hgj)⟩
          ·rw[zav (by omega)] at hj;have hjl:j - (qaf rx).length<news.length:=by rw[hn.1];exact(zae.1 hj).1
           have hgj:=zad hjl;refine⟨_, ?_,hn.2.1 _ (zcd hjl),up (r:=ry) hgy hj (hn.2.2 _ c _ hj hgj)⟩;rw[<- hset.cin _ _ hgj];congr 2;omega
        ·exact grow (base:=some ad) (cap:=cap) (olds:=olds) rfl (by rw[x4]) x1 x2 (fun w' hw'=>run_firstCells_some (P:=P) w' _ _ ad _ _ olds (by rw[n1.1,hx1,x4]) fun j v hj=>by rw[hw'];exact hoa j v hj) n1 (by omega)
      ·cases h
     ·cases h
    ·cases h
   ·cases h
  ·cases h
 ·cases h
theorem xbcy{P:Program}{β:Type}{E:Env}{w0:Base}{bl I0:Nat->Prop}{s:List (Nat×V)}{H:Heap}{a:Act}{w:World}{Im:Nat->Prop}{ρ:Nat->Loc}{o:Oper}{k:V->Upd->Option β}{r:β}{next:Act->World->Prop}{Q:Exit->Act->World->Prop}(h:akK P E s H o k=some r)(hI:Inv E w0 bl I0 s H a w Im ρ)(hf: ∀p∈makes E o,Free p s H)(hk: ∀v u x w' Im' ρ',k v u=some r->Inv E w0 bl I0 s (updH H u) a w' Im' ρ'->VRep w' Im' ρ' (shOf (updH H u)) v x->next (a.put o.dst x) w'):o.wp P a w next Q:=by
 have hv: ∀x:Operand,VRep w Im ρ (shOf H) (opd E s x) (a.eval x):=hI.opd;unfold akK at h;split at h
 ·rename_i c hop;split at h
  ·rename_i hcal;split at h
   ·rename_i t t2 x y hat hae;have hl:RepL w Im ρ (shOf H) (c.args.toList.map (opd E s)) (c.args.toList.map a.eval):=⟨by simp,fun j p q hj hq=>by
     rw[zai] at hj hq
     cases hd:c.args.toList[j]? with
     | none=>rw[hd] at hj;cases hj
     | some x=>
      rw[hd] at hj hq;simp only[zap,zaa] at hj hq;subst hj hq;exact hv _⟩
    rw[hae] at hl;obtain⟨ax,ay,hav⟩: ∃ax ay,c.args.toList.map a.eval=[ax,ay]:=by
     have:=hl.1
     cases hm:c.args.toList.map a.eval with
     | nil=>rw[hm] at this;simp at this
     | cons u r=>
      cases r with
      | nil=>rw[hm] at this;simp at this
      | cons u2 r2=>
       cases r2 with
       | nil=>exact⟨u,u2,rfl⟩
       | cons=>rw[hm] at this;simp at this
    rw[hav] at hl;have hx:=hl.2 0 x ax rfl rfl;have hy:=hl.2 1 y ay rfl rfl;have e1:c.argTypes= #[t,t2]:=by apply zcw;simpa using hat
    have e2:c.args.map a.eval= #[ax,ay]:=by apply zcw;simpa using hav
    split at h
    ·rename_i e' hk2;replace h:=qat h;obtain⟨h1,h⟩:=h;obtain⟨v,u,val,w',Im',ρ',g1,g2,g3,g4⟩:=qo3 (ty:=o.type) h hI (hf _ (by simp[makes,hop,hcal])) hx hy ⟨_,qb5 hk2⟩ fun b hb=>by rw[hb] at h1;cases h1
     refine qfr (w':=w') (v:=val) ?_ (hk v u val w' Im' ρ' g1 g3 g4);simp[execOp,hop,resolve,hcal,invoke,builtin,e1,e2,g2]
    ·cases h
   ·cases h
  ·cases h
 ·cases h
theorem Inv.put{E:Env}{w0:Base}{bl I0:Nat->Prop}{s:List (Nat×V)}{H:Heap}{a:Act}{w:World}{Im:Nat->Prop}{ρ:Nat->Loc}(h:Inv E w0 bl I0 s H a w Im ρ){d:Option Tmp}{v:V}{x:Value}(hd: ∀t,d=some t->t<E.nt)(hv:VRep w Im ρ (shOf H) v x):Inv E w0 bl I0 (setD s d v) H (a.put d x) w Im ρ:=by
 refine⟨h.gam,h.fr,fun t=> ?_, ?_, ?_,h.gl,h.st⟩
 ·rw[qdk]
  cases d with
  | none=>simpa [Act.put] using h.sl t
  | some d=>
   have hlt:d<a.tmps.size:=by rw[h.nt];exact hd d rfl
   by_cases e:d=t
   ·subst e;simp only[if_true,Act.put];rw[zay,zbx];simpa [hlt] using hv
   ·have e': ¬(some d=some t):=fun h=>e (by simpa using h);rw[if_neg e'];have:=h.sl t;simp only[Act.put];rw[zay,zbx];rw[zay] at this;simpa [e] using this
 ·cases d<;>simp[Act.put,h.nt]
 ·cases d<;>exact h.df
theorem Inv.know{E:Env}{w0:Base}{bl I0:Nat->Prop}{s s':List (Nat×V)}{H:Heap}{a:Act}{w:World}{Im:Nat->Prop}{ρ:Nat->Loc}(h:Inv E w0 bl I0 s H a w Im ρ)(hs: ∀t,getV s' t=getV s t):Inv E w0 bl I0 s' H a w Im ρ:=⟨h.gam,h.fr,fun t=>by rw[hs];exact h.sl t,h.nt,h.df,h.gl,h.st⟩
theorem qpj(s:List (Nat×V))(d:Nat)(v:V)(t:Nat):getV (qcg s d v) t=if t=d then v else getV s t:=by by_cases h:t=d<;>simp[getV,qar,h]
theorem qfx{β:Type}{E:Env}{w0:Base}{bl I0:Nat->Prop}{s:List (Nat×V)}{H:Heap}{a:Act}{w:World}{Im:Nat->Prop}{ρ:Nat->Loc}{d:Nat}{f:Bool->List (Nat×V)->Option β}{r:β}(h:decK s d f=some r)(hI:Inv E w0 bl I0 s H a w Im ρ): ∃b s',f b s'=some r/\Inv E w0 bl I0 s' H a w Im ρ/\a.tmps.getD d undef=.bool b:=by
 unfold decK at h;split at h
 ·rename_i b hb;have hv:=hI.sl d;rw[hb] at hv;refine⟨b,qcg s d (.cl (.bool b)), ?_,hI.know fun t=> ?_,hv.bool⟩
  ·cases b<;>exact h
  ·rw[qpj];split
   ·rename_i e;subst e;exact hb.symm
   ·rfl
 ·cases h
def qom(g:V->V):Rw->Rw
 | .var l=>.var (l.map g)
 | r=>r
theorem qff(g:V->V)(o:Obj):shp {o with row:=qom g o.row}=shp o:=by obtain⟨r,l⟩:=o;cases r<;>simp[shp,qom,Rw.len,Rw.esz,q47]
theorem qwa{g:V->V}(hg: ∀c,g (.cl c)=.cl c)(r:Rw):qaf (qom g r)=(qaf r).map g:=by cases r<;>simp[qom,qaf,hg]
theorem q2d{w:World}{Im:Nat->Prop}{ρ ρ':Nat->Loc}{H H':Heap}{f:Nat->Nat}{g:V->V}{Bad:Nat->Prop}(hg: ∀c,g c=.undef\/(g c=renV f c/\∀m,qda m c=true-> ¬Bad m))(hb: ∀m, ¬Bad m->shOf H' (f m)=none\/(shOf H' (f m)=shOf H m/\ρ' (f m)=ρ m))(v:V)(x:Value)(hx:VRep w Im ρ (shOf H) v x):VRep w Im ρ' (shOf H') (g v) x:=by
 rcases hg v with e|⟨e,hm⟩
 ·rw[e];exact .undef x
 ·rw[e];exact hx.ren (fun _ _=>rfl) (fun _ h=>h) fun q hq=>hb q (hm q hq)
theorem Gam.map{B:Nat}{bl I0:Nat->Prop}{H H':Heap}{w:World}{Im:Nat->Prop}{ρ ρ':Nat->Loc}(h:Gam B bl I0 w Im ρ H){f:Nat->Nat}{g:V->V}{Bad:Nat->Prop}(hgc: ∀c,g (.cl c)=.cl c)(hg: ∀c,g c=.undef\/(g c=renV f c/\∀m,qda m c=true-> ¬Bad m))(hH: ∀q o',qah H' q=some o'->∃p o,qah H p=some o/\f p=q/\ρ' q=ρ p/\o'= {o with row:=qom g o.row})(hb: ∀m, ¬Bad m->shOf H' (f m)=none\/(shOf H' (f m)=shOf H m/\ρ' (f m)=ρ m)):Gam B bl I0 w Im ρ' H':=by
 have hv:=q2d (w:=w) (Im:=Im) hg hb;refine⟨h.im,h.i0,fun q o' hq=> ?_,fun q q' o o' b x y x' y' hq hq' hr hr' hne=> ?_,fun q o b x y hq hr=> ?_,h.imo⟩
 ·obtain⟨p,o,h1,h2,h3,rfl⟩:=hH q o' hq;rw[h3];have hO:=h.ob p o h1;show ORep _ _ _ _ (qom g o.row) _
  cases hl:ρ p with
  | none=>
   rw[hl] at hO;obtain⟨a1,a2,a3⟩:=hO;cases hr:o.row<;>rw[hr] at a1 a2 a3<;>first|exact⟨a1,a2,a3⟩|cases a1
  | some l=>
   obtain⟨b,base,lim⟩:=l;rw[hl] at hO;obtain⟨a1,a2,a3,a4,a5⟩:=hO;refine⟨by cases hr:o.row<;>rw[hr] at a1<;>first|exact a1|trivial,a2,by rw[qwa hgc,zam];exact a3,a4,fun j c hj=> ?_⟩;rw[qwa hgc,zai] at hj;obtain⟨d,hd,rfl⟩:=zaq.1 hj;obtain⟨v,v1,v2,v3⟩:=a5 j d hd;exact⟨v,v1,v2,hv d v v3⟩
 ·obtain⟨p,u,h1,h2,h3,rfl⟩:=hH q o hq;obtain⟨p',u',h1',h2',h3',rfl⟩:=hH q' o' hq';rw[h3] at hr;rw[h3'] at hr';exact h.dj p p' u u' b x y x' y' h1 h1' hr hr' fun e=>hne (by rw[<- h2, <- h2',e])
 ·obtain⟨p,u,h1,h2,h3,rfl⟩:=hH q o hq;rw[h3] at hr;exact h.lk p u b x y h1 hr
theorem Inv.map{E:Env}{w0:Base}{bl I0:Nat->Prop}{s s':List (Nat×V)}{H H':Heap}{a:Act}{w:World}{Im:Nat->Prop}{ρ ρ':Nat->Loc}(h:Inv E w0 bl I0 s H a w Im ρ){f:Nat->Nat}{g:V->V}{Bad:Nat->Prop}(hgc: ∀c,g (.cl c)=.cl c)(hg: ∀c,g c=.undef\/(g c=renV f c/\∀m,qda m c=true-> ¬Bad m))(hs: ∀t,getV s' t=.undef\/getV s' t=g (getV s t))(hH: ∀q o',qah H' q=some o'->∃p o,qah H p=some o/\f p=q/\ρ' q=ρ p/\o'= {o with row:=qom g o.row}/\(q<32->p=q))(hb: ∀m, ¬Bad m->shOf H' (f m)=none\/(shOf H' (f m)=shOf H m/\ρ' (f m)=ρ m)):Inv E w0 bl I0 s' H' a w Im ρ':=by
 refine⟨h.gam.map hgc hg (fun q o' hq=>let ⟨p,o,h1,h2,h3,h4,_⟩:=hH q o' hq;⟨p,o,h1,h2,h3,h4⟩) hb,h.fr,fun t=> ?_,h.nt,h.df,h.gl,fun j o hj hg=> ?_⟩
 ·rcases hs t with e|e
  ·rw[e];exact .undef _
  ·rw[e];exact q2d hg hb _ _ (h.sl t)
 ·obtain⟨p,u,h1,h2,h3,rfl,h4⟩:=hH j o hg;obtain rfl:=h4 hj;rw[qff,h3];exact h.st p u hj h1
theorem qhr(p:Nat): ∀(s:List (Nat×V)) (t:Nat),getV (xbj3 p s) t=cond (qda p (getV s t)) .undef (getV s t)
 | [],t=>rfl
 | (k,v)::r,t=>by
  have ih:=qhr p r t;simp only[xbj3]
  cases hm:qda p v with
  | true=>
   simp only[cond_true,getV,qah]
   cases hb:Nat.beq k t with
   | true=>simp[hm]
   | false=>exact ih
  | false=>
   simp only[cond_false,getV,qah]
   cases hb:Nat.beq k t with
   | true=>simp[hm]
   | false=>exact ih
theorem qtw(f:Nat->Nat): ∀(s:List (Nat×V)) (t:Nat),getV (renS f s) t=renV f (getV s t)
 | [],t=>rfl
 | (k,v)::r,t=>by
  have ih:=qtw f r t;simp only[renS,getV,qah]
  cases hb:Nat.beq k t with
  | true=>rfl
  | false=>exact ih
theorem qwi(l:List Nat): ∀(s:List (Nat×V)) (t:Nat),getV (trimS l s) t=.undef\/getV (trimS l s) t=getV s t
 | [],t=>.inl rfl
 | (k,v)::r,t=>by
  have ih:=qwi l r t;simp only[trimS]
  cases hk:l.any (Nat.beq k) with
  | true=>
   simp only[cond_true,getV,qah]
   cases hb:Nat.beq k t with
   | true=>exact .inr rfl
   | false=>exact ih
  | false=>
   simp only[cond_false];by_cases hb:k=t
   ·subst hb;left;have key: ∀r:List (Nat×V),getV (trimS l r) k=.undef:=fun r=>by
     induction r with
     | nil=>rfl
     | cons x r ih=>
      obtain⟨k',v'⟩:=x;simp only[trimS]
      cases hk':l.any (Nat.beq k') with
      | true=>
       simp only[cond_true,getV,qah]
       cases hb:Nat.beq k' k with
       | true=>obtain rfl:=qag.1 hb;rw[hk] at hk';cases hk'
       | false=>exact ih
      | false=>exact ih
    exact key r
   ·rcases ih with h|h
    ·exact .inl h
    ·right;rw[h];have:Nat.beq k t=false:=by rw[zau];intro h';exact hb (qag.1 h')
     simp[getV,qah,this]
theorem qfu(l:List Nat): ∀(H:Heap) (q:Nat) (o:Obj),qah (trimH l H) q=some o->qah H q=some o
 | [],q,o,h=>by cases h
 | (k,v)::r,q,o,h=>by
  have ih:=qfu l r q o;simp only[trimH] at h
  cases hk:l.any (Nat.beq k) with
  | true=>
   rw[hk] at h;simp only[cond_true,qah] at h ⊢
   cases hb:Nat.beq k q with
   | true=>rw[hb] at h;exact h
   | false=>rw[hb] at h;exact ih h
  | false=>
   rw[hk] at h;simp only[cond_false] at h;simp only[qah]
   cases hb:Nat.beq k q with
   | true=>
    obtain rfl:=qag.1 hb;exfalso;have key: ∀r:Heap,qah (trimH l r) k=none:=fun r=>by
     induction r with
     | nil=>rfl
     | cons x r ih=>
      obtain⟨k',v'⟩:=x;simp only[trimH]
      cases hk':l.any (Nat.beq k') with
      | true=>
       simp only[cond_true,qah]
       cases hb:Nat.beq k' k with
       | true=>obtain rfl:=qag.1 hb;rw[hk] at hk';cases hk'
       | false=>exact ih
      | false=>exact ih
    rw[key r] at h;cases h
   | false=>exact ih h
theorem qeo(p:Nat): ∀(H:Heap) (q:Nat),qah (q49 p H) q=if q=p then none else(qah H q).map fun o=> {o with row:=q5a p o.row}
 | [],q=>by simp[q49,qah]
 | (k,o)::r,q=>by
  have ih:=qeo p r q;simp only[q49]
  cases hk:Nat.beq k p with
  | true=>
   obtain rfl:=qag.1 hk;simp only[cond_true];rw[ih];split
   ·rfl
   ·rename_i hne;have:Nat.beq k q=false:=by rw[zau];intro h';exact hne (qag.1 h').symm
    simp[qah,this]
  | false=>
   simp only[cond_false,qah]
   cases hb:Nat.beq k q with
   | true=>
    obtain rfl:=qag.1 hb;rw[if_neg (qa1 hk)];rfl
   | false=>exact ih
theorem qhm(f:Nat->Nat): ∀(H:Heap) (q:Nat) (o':Obj),qah (q25 f H) q=some o'->∃p o,qah H p=some o/\f p=q/\o'= {o with row:=qgk f o.row}
 | [],q,o',h=>by cases h
 | (k,ob)::r,q,o',h=>by
  simp only[q25] at h;rw[qar] at h;split at h
  ·rename_i e;subst e;simp only[zaa] at h;exact⟨k,ob,by simp[qah,zbi],rfl,h.symm⟩
  ·rename_i hne;obtain⟨p,o,h1,h2,h3⟩:=qhm f r q o' h;refine⟨p,o, ?_,h2,h3⟩;have:Nat.beq k p=false:=by rw[zau];intro h';rw[qag.1 h'] at hne;exact hne h2.symm
   simp[qah,this,h1]
theorem q0a(f:Nat->Nat): ∀l:List V,renL f l=l.map (renV f)
 | []=>rfl
 | v::r=>by simp[renL,q0a f r]
def On(E:Env)(w0:Base)(bl I0:Nat->Prop)(σ:St)(a:Act)(w:World):Prop:= ∃Im ρ,Inv E w0 bl I0 σ.slots σ.heap a w Im ρ
section
variable {E:Env} {w0:Base} {bl I0:Nat->Prop} {σ:St} {a:Act} {w:World} {Im:Nat->Prop}
theorem On.rename(h:On E w0 bl I0 σ a w)(p:Nat){q:Nat}(hq:32<=q):On E w0 bl I0 (rename p q σ) a w:=by
 obtain⟨Im,ρ,h⟩:=h;have hone: ∀x,one2 p q x=if x=p then q else x:=fun x=>by
  unfold one2
  cases hb:Nat.beq x p with
  | true=>simp[qag.1 hb]
  | false=>simp[qa1 hb]
 have hget: ∀(x:Nat) (o':Obj),qah (YtoiikagnjcjccaaGreatDoorA.rename p q σ).heap x=some o'->∃p' o,qah σ.heap p'=some o/\p'≠q/\one2 p q p'=x/\o'= {o with row:=qom (fun c=>renV (one2 p q) (cond (qda q c) .undef c)) o.row}:=fun x o' hx=>by
  obtain⟨p',o,h1,h2,h3⟩:=qhm _ _ _ _ hx;change qah (q49 q σ.heap) p'=some o at h1;rw[qeo] at h1;split at h1
  ·cases h1
  ·rename_i hne;obtain⟨u,hu,rfl⟩:=zaq.1 h1;refine⟨p',u,hu,hne,h2, ?_⟩;rw[h3];obtain⟨row,lock⟩:=u;cases row<;>simp[q5a,qgk,qom,q0a,zdg]
 have hsrc: ∀p' x,p'≠q->one2 p q p'=x->(x=q/\p'=p)\/(x≠q/\p'=x):=fun p' x hne hx=>by
  rw[hone] at hx;split at hx
  ·rename_i e;exact .inl ⟨hx.symm,e⟩
  ·exact .inr ⟨by rw[<- hx];exact hne,hx⟩
 refine⟨Im,fun x=>if x=q then ρ p else ρ x,h.map (f:=one2 p q) (g:=fun c=>renV (one2 p q) (cond (qda q c) .undef c)) (Bad:=fun m=>m=q) (fun c=>rfl) (fun c=> ?_) (fun t=>.inr ?_) (fun x o' hx=> ?_) fun m hm=> ?_⟩
 ·cases hb:qda q c with
  | true=>left;rfl
  | false=>right;exact⟨rfl,fun m hm e=>by subst e;rw[hb] at hm;cases hm⟩
 ·show getV (renS (one2 p q) (xbj3 q σ.slots)) t=_;rw[qtw,qhr]
 ·obtain⟨p',o,h1,h2,h3,h4⟩:=hget x o' hx;refine⟨p',o,h1,h3, ?_,h4,fun hx32=> ?_⟩
  ·rcases hsrc p' x h2 h3 with⟨e1,e2⟩|⟨e1,e2⟩
   ·rw[if_pos e1,e2]
   ·rw[if_neg e1,e2]
  ·rcases hsrc p' x h2 h3 with⟨e1,e2⟩|⟨e1,e2⟩
   ·omega
   ·exact e2
 ·cases hx:qah (YtoiikagnjcjccaaGreatDoorA.rename p q σ).heap (one2 p q m) with
  | none=>left;simp[shOf,hx]
  | some o'=>
   right;obtain⟨p',o,h1,h2,h3,h4⟩:=hget _ o' hx;have hpm:p'=m:=by
    rcases hsrc p' _ h2 h3 with⟨e1,e2⟩|⟨e1,e2⟩
    ·rcases hsrc m _ hm rfl with⟨e3,e4⟩|⟨e3,e4⟩
     ·rw[e2,e4]
     ·exact absurd e1 e3
    ·rcases hsrc m _ hm rfl with⟨e3,e4⟩|⟨e3,e4⟩
     ·exact absurd e3 e1
     ·rw[e2, <- e4]
   subst hpm;refine⟨?_, ?_⟩
   ·simp only[shOf,hx,h1,zap,h4];rw[qff]
   ·show(if one2 p q p'=q then ρ p else ρ (one2 p q p'))=ρ p';rcases hsrc p' _ h2 rfl with⟨e1,e2⟩|⟨e1,e2⟩
    ·rw[if_pos e1,e2]
    ·rw[if_neg e1, <- e2]
theorem On.vacate(h:On E w0 bl I0 σ a w)(p:Nat):On E w0 bl I0 (vacate p σ) a w:=by
 obtain⟨Im,ρ,h⟩:=h;have hid: ∀c:V,renV (fun p=>p) c=c:=qjz;have hget: ∀(x:Nat) (o':Obj),qah (q49 p σ.heap) x=some o'->x≠p/\∃o,qah σ.heap x=some o/\o'= {o with row:=qom (fun c=>cond (qda p c) .undef c) o.row}:=fun x o' hx=>by
  rw[qeo] at hx;split at hx
  ·cases hx
  ·rename_i hne;obtain⟨u,hu,rfl⟩:=zaq.1 hx;refine⟨hne,u,hu, ?_⟩;obtain⟨row,lock⟩:=u;cases row<;>simp[q5a,qom]
 refine⟨Im,ρ,h.map (f:=fun p=>p) (g:=fun c=>cond (qda p c) .undef c) (Bad:=fun m=>m=p) (fun c=>rfl) (fun c=> ?_) (fun t=>.inr (qhr p σ.slots t)) (fun x o' hx=> ?_) fun m hm=> ?_⟩
 ·cases hb:qda p c with
  | true=>left;rfl
  | false=>right;exact⟨(hid c).symm,fun m hm e=>by subst e;rw[hb] at hm;cases hm⟩
 ·obtain⟨_,o,h1,h2⟩:=hget x o' hx;exact⟨x,o,h1,rfl,rfl,h2,fun _=>rfl⟩
 ·cases hx:qah (q49 p σ.heap) m with
  | none=>left;simp[shOf,YtoiikagnjcjccaaGreatDoorA.vacate,hx]
  | some o'=>
   right;obtain⟨_,o,h1,h2⟩:=hget m o' hx;refine⟨?_,rfl⟩;simp only[shOf,YtoiikagnjcjccaaGreatDoorA.vacate,hx,h1,zap,h2];rw[qff]
theorem On.trimS(h:On E w0 bl I0 σ a w)(l:List Nat):On E w0 bl I0 ⟨trimS l σ.slots,σ.heap⟩ a w:=by obtain⟨Im,ρ,h⟩:=h;refine⟨Im,ρ,h.map (f:=fun p=>p) (g:=fun c=>c) (Bad:=fun _=>False) (fun c=>rfl) (fun c=>.inr ⟨(qjz c).symm,fun _ _ h=>h⟩) (fun t=>qwi l σ.slots t) (fun x o' hx=> ?_) fun x _=>.inr ⟨rfl,rfl⟩⟩;refine⟨x,o',hx,rfl,rfl, ?_,fun _=>rfl⟩;obtain⟨row,lock⟩:=o';cases row<;>simp[qom]
theorem On.trimH(h:On E w0 bl I0 σ a w)(m:List Nat):On E w0 bl I0 ⟨σ.slots,trimH m σ.heap⟩ a w:=by
 obtain⟨Im,ρ,h⟩:=h;refine⟨Im,ρ,h.map (f:=fun p=>p) (g:=fun c=>c) (Bad:=fun _=>False) (fun c=>rfl) (fun c=>.inr ⟨(qjz c).symm,fun _ _ h=>h⟩) (fun t=>.inr rfl) (fun x o' hx=> ?_) fun x _=> ?_⟩
 ·refine⟨x,o',qfu m _ _ _ hx,rfl,rfl, ?_,fun _=>rfl⟩;obtain⟨row,lock⟩:=o';cases row<;>simp[qom]
 ·cases hx:qah (YtoiikagnjcjccaaGreatDoorA.trimH m σ.heap) x with
  | none=>left;simp[shOf,hx]
  | some o'=>right;exact⟨by simp[shOf,hx,qfu m _ _ _ hx],rfl⟩
theorem On.free(h:On E w0 bl I0 σ a w)(p:Nat):On E w0 bl I0 (free p σ) a w:=by
 unfold YtoiikagnjcjccaaGreatDoorA.free;split
 ·exact h.rename p (by omega)
 ·exact h.vacate p
theorem On.frees: ∀(l:List Nat) {σ:St},On E w0 bl I0 σ a w->On E w0 bl I0 (l.foldl (fun τ p=>YtoiikagnjcjccaaGreatDoorA.free p τ) σ) a w
 | [],σ,h=>h
 | p::r,σ,h=>On.frees r (On.free h p)
theorem On.prep: ∀(l:List Oper) {σ:St},On E w0 bl I0 σ a w->On E w0 bl I0 (prep E l σ) a w
 | [],σ,h=>h
 | o::r,σ,h=>by simp only[YtoiikagnjcjccaaGreatDoorA.prep];refine On.prep r ?_;exact On.frees (makes E o) h
theorem On.renAll: ∀(l:List (Nat×Nat)) {σ:St},On E w0 bl I0 σ a w->On E w0 bl I0 (renAll l σ) a w
 | [],σ,h=>h
 | (p,q)::r,σ,h=>by
  simp only[YtoiikagnjcjccaaGreatDoorA.renAll];refine On.renAll r ?_;split
  ·cases hb:Nat.ble 32 q with
   | true=>exact h.rename _ (zb2 hb)
   | false=>exact h
  ·exact h
theorem Inv.recell{s:List (Nat×V)}{H:Heap}{ρ:Nat->Loc}(h:Inv E w0 bl I0 s H a w Im ρ){p i:Nat}{l:List V}{lk:Bool}{c c':V}(hp:qah H p=some ⟨.var l,lk⟩)(hi:l[i]? =some c)(hc: ∀x,VRep w Im ρ (shOf H) c x->VRep w Im ρ (shOf H) c' x):Inv E w0 bl I0 s (qcg H p ⟨.var (l.set i c'),lk⟩) a w Im ρ:=by
 have hS:shOf (qcg H p ⟨.var (l.set i c'),lk⟩)=shOf H:=by
  funext q;rw[qc1];split
  ·rename_i e;subst e;simp[shOf,hp,shp,Rw.len,Rw.esz,q47]
  ·rfl
 have old: ∀q o,qah (qcg H p ⟨.var (l.set i c'),lk⟩) q=some o->∃o',qah H q=some o'/\o'.lock=o.lock/\(q≠p->o'=o):=fun q o hq=>by
  rw[qar] at hq;split at hq
  ·rename_i e;subst e;simp only[zaa] at hq;subst hq;exact⟨_,hp,rfl,fun e=>absurd rfl e⟩
  ·exact⟨o,hq,rfl,fun _=>rfl⟩
 refine⟨⟨h.gam.im,h.gam.i0,fun q o hq=> ?_,fun q q' o o' b x y x' y' hq hq' hr hr' hne=> ?_,fun q o b x y hq hr=> ?_,h.gam.imo⟩,h.fr,fun t=> ?_,h.nt,h.df,h.gl,fun j o hj hg=> ?_⟩
 ·rw[hS];by_cases e:q=p
  ·subst e;rw[qar,if_pos rfl] at hq;simp only[zaa] at hq;subst hq;have hO:=h.gam.ob q _ hp;show ORep w Im ρ (shOf H) (.var (l.set i c')) (ρ q)
   cases hr:ρ q with
   | none=>rw[hr] at hO;exact absurd hO.1 (by simp[growing])
   | some loc=>
    obtain⟨b,base,lim⟩:=loc;rw[hr] at hO;obtain⟨h1,h2,h3,h4,h5⟩:=hO;refine⟨trivial,h2,by simpa [qaf] using h3,h4,fun j d hj=> ?_⟩;simp only[qaf] at hj h5;rw[List.getElem?_set] at hj;split at hj
    ·rename_i e;subst e;split at hj
     ·simp only[zaa] at hj;subst hj;obtain⟨v,v1,v2,v3⟩:=h5 i c hi;exact⟨v,v1,v2,hc v v3⟩
     ·cases hj
    ·exact h5 j d hj
  ·obtain⟨o',g1,_,g3⟩:=old q o hq;rw[g3 e] at g1;exact h.gam.ob q o g1
 ·obtain⟨u,g1,g2,_⟩:=old q o hq;obtain⟨u',g1',g2',_⟩:=old q' o' hq';rw[<- g2, <- g2'];exact h.gam.dj q q' u u' b x y x' y' g1 g1' hr hr' hne
 ·obtain⟨u,g1,g2,_⟩:=old q o hq;rw[<- g2];exact h.gam.lk q u b x y g1 hr
 ·rw[hS];exact h.sl t
 ·by_cases e:j=p
  ·subst e;rw[qar,if_pos rfl] at hg;simp only[zaa] at hg;subst hg;have:=h.st j _ hj hp;rw[this];simp[shp,Rw.len,Rw.esz,q47]
  ·rw[qar,if_neg e] at hg;exact h.st j o hj hg
theorem On.virK: ∀(l:List (Nat×Nat×Nat×Rw)) {σ:St},On E w0 bl I0 σ a w->On E w0 bl I0 (virK l σ) a w
 | [],σ,h=>h
 | (p,i,q,e)::r,σ,h=>by
  simp only[YtoiikagnjcjccaaGreatDoorA.virK];refine On.virK r ?_;split
  ·rename_i l lk hp;split
   ·rename_i hi
    cases hb:(xbcp σ.slots σ.heap [q]&&qwe e) with
    | false=>exact h
    | true=>
     simp only[zab] at hb;simp only[cond_true];obtain⟨Im,ρ,hI⟩:=h;have hf:=qfz hb.1 q (by simp);have he:growing e=true/\e.len=0/\okR e:=by
      cases e with
      | ints k l=>cases l<;>simp_all [qwe,growing,Rw.len,okR]
      | gen n l=>cases l<;>simp_all [qwe,growing,Rw.len,okR]
      | _=>simp[qwe] at hb
     have h1:=hI.virtual hf he.1 he.2.1 he.2.2;have hqp: ¬p=q:=fun e=>by subst e;have:=hf.none;rw[hp] at this;cases this
     exact⟨Im,put ρ q none,h1.recell (p:=p) (i:=i) (l:=l) (lk:=lk) (c:=.nils) (by rw[qar,if_neg hqp];exact hp) hi fun x hx=>by
      cases hx;exact .refV q (shp ⟨e,false⟩) true _ (by rw[qc1,if_pos rfl]) (by simp[put]) he.2.1 rfl⟩
   ·exact h
  ·exact h
theorem On.tx{l:Option (List Nat)}(h:On E w0 bl I0 σ a w):On E w0 bl I0 (tx l σ) a w:=by
 cases l with
 | none=>exact h
 | some l=>exact(h.trimS l).trimH _
theorem On.head(h:On E w0 bl I0 σ a w)(rid:Nat):On E w0 bl I0 (head E rid σ) a w:=(On.renAll _ (On.virK _ (h.trimS _))).trimH _
end
theorem Fr.trans{w0 w w':World}{bl bl':Nat->Prop}(h:Fr w0 bl w)(h':Fr w bl' w')(hb: ∀b,bl' b->bl b\/w0.heap.size<=b):Fr w0 bl w':=
 ⟨h'.os.trans h.os,h'.tape.trans h.tape,h'.output.trans h.output,zb7 h.size h'.size,fun b hlt hn=>
  (h'.block b (zbc hlt h.size) fun e=>(hb b e).elim hn fun h=>absurd hlt (by omega)).trans (h.block b hlt hn)⟩
theorem Fr.mono{w0 w:World}{bl bl':Nat->Prop}(h:Fr w0 bl w)(hb: ∀b,bl b->bl' b\/w0.heap.size<=b):Fr w0 bl' w:=
 ⟨h.os,h.tape,h.output,h.size,fun b hlt hn=>h.block b hlt fun e=>(hb b e).elim hn fun h=>absurd hlt (by omega)⟩
theorem Fr.alloc(w:World)(o:Go.Obj)(bl:Nat->Prop):Fr w bl (w.alloc o):=⟨rfl,rfl,rfl,by simp,fun b hb _=>Go.RowKit.Below.heap_alloc w o b hb⟩
theorem Fr.putObj(w:World)(l:Nat)(o:Go.Obj):Fr w (fun b=>b=l) (w.putObj l o):=⟨rfl,rfl,rfl,by simp,fun b hb hn=>World.putObj_heap_other hn⟩
def chg(H:Heap)(ρ:Nat->Loc)(b:Nat):Prop:= ∃p o x y,qah H p=some o/\o.lock=false/\ρ p=some (b,x,y)
def obs(H:Heap)(ρ:Nat->Loc)(b:Nat):Prop:= ∃p o x y,qah H p=some o/\ρ p=some (b,x,y)
section
variable {P:Program} {E:Env} {w0:Base} {bl I0:Nat->Prop} {s:List (Nat×V)} {H:Heap} {a:Act} {w w':World} {Im:Nat->Prop} {ρ:Nat->Loc}
theorem Inv.beside(h:Inv E w0 bl I0 s H a w Im ρ){Ch:Nat->Prop}(hf:Fr w Ch w')(hc: ∀b,b<w.heap.size->Ch b-> ¬Im b/\¬obs H ρ b/\(bl b\/w0.w.heap.size<=b)):Inv E w0 bl I0 s H a w' Im ρ:=by
 have hk:Keep Im w w':=fun b hb=>hf.block b (h.gam.im b hb) fun e=>(hc b (h.gam.im b hb) e).1 hb;have hv: ∀v x,VRep w Im ρ (shOf H) v x->VRep w' Im ρ (shOf H) v x:=fun v x hx=>hx.congr hk (fun _ h=>h) (fun q _=>.inr ⟨rfl,rfl⟩);refine⟨⟨fun b hb=>zbc (h.gam.im b hb) hf.size,h.gam.i0,fun p o hp=> ?_,h.gam.dj,fun p o b x y hp hr=>⟨zbc (h.gam.lk p o b x y hp hr).1 hf.size,(h.gam.lk p o b x y hp hr).2⟩,h.gam.imo⟩,
  ⟨hf.os.trans h.fr.os,hf.tape.trans h.fr.tape,hf.output.trans h.fr.output,zb7 h.fr.size hf.size,fun b hlt hn=> ?_⟩,
  fun t=>hv _ _ (h.sl t),h.nt,h.df.keep hk (fun _ h=>h),fun g c hg=>(h.gl g c hg).keep hk (fun _ h=>h),h.st⟩
 ·refine(h.gam.ob p o hp).congr (fun b x y hr=> ?_) fun j c x _=>hv c x;have hlt:=(h.gam.lk p o b x y hp hr).1;exact hf.block b hlt fun e=>(hc b hlt e).2.1 ⟨p,o,x,y,hp,hr⟩
 ·have hlt':=zbc hlt h.fr.size;exact(hf.block b hlt' fun e=>(hc b hlt' e).2.2.elim hn fun h=>absurd hlt (by omega)).trans (h.fr.block b hlt hn)
theorem Inv.guard(h:Inv E w0 bl I0 s H a w Im ρ){D:Nat}(hD:D<w.heap.size)(h0:w0.w.heap.size<=D)(ho: ¬obs H ρ D):Inv E w0 bl I0 s H a w (fun b=>Im b\/b=D) ρ:=by
 have hv: ∀v x,VRep w Im ρ (shOf H) v x->VRep w (fun b=>Im b\/b=D) ρ (shOf H) v x:=fun v x hx=>hx.congr (fun _ _=>rfl) (fun _ h=>.inl h) (fun q _=>.inr ⟨rfl,rfl⟩);refine⟨⟨fun b hb=>hb.elim (h.gam.im b) fun e=>by rw[e];exact hD,fun b hb=>.inl (h.gam.i0 b hb),fun p o hp=>(h.gam.ob p o hp).congr (fun _ _ _ _=>rfl) fun j c x _=>hv c x,h.gam.dj,
  fun p o b x y hp hr=>⟨(h.gam.lk p o b x y hp hr).1,fun hl=>.inl ((h.gam.lk p o b x y hp hr).2.1 hl),fun hl=>⟨fun e=>e.elim ((h.gam.lk p o b x y hp hr).2.2 hl).1 fun e=>ho ⟨p,o,x,y,hp,by rw[<- e];exact hr⟩,((h.gam.lk p o b x y hp hr).2.2 hl).2⟩⟩,
  fun b hb=>hb.elim (h.gam.imo b) fun e=>.inr (.inr (by rw[e];exact h0))⟩,h.fr,fun t=>hv _ _ (h.sl t),h.nt,h.df.keep (fun _ _=>rfl) (fun _ h=>.inl h),fun g c hg=>(h.gl g c hg).keep (fun _ _=>rfl) (fun _ h=>.inl h),h.st⟩
theorem Inv.freeze(h:Inv E w0 bl I0 s H a w Im ρ){Fz:Nat->Prop}(hF: ∀b,Fz b->b<w.heap.size/\¬chg H ρ b/\(I0 b\/bl b\/w0.w.heap.size<=b)):Inv E w0 bl I0 s H a w (fun b=>Im b\/Fz b) ρ:=by
 have hv: ∀v x,VRep w Im ρ (shOf H) v x->VRep w (fun b=>Im b\/Fz b) ρ (shOf H) v x:=fun v x hx=>hx.congr (fun _ _=>rfl) (fun _ h=>.inl h) (fun q _=>.inr ⟨rfl,rfl⟩);refine⟨⟨fun b hb=>hb.elim (h.gam.im b) fun e=>(hF b e).1,fun b hb=>.inl (h.gam.i0 b hb),fun p o hp=>(h.gam.ob p o hp).congr (fun _ _ _ _=>rfl) fun j c x _=>hv c x,h.gam.dj,
  fun p o b x y hp hr=>⟨(h.gam.lk p o b x y hp hr).1,fun hl=>.inl ((h.gam.lk p o b x y hp hr).2.1 hl),fun hl=>⟨fun e=>e.elim ((h.gam.lk p o b x y hp hr).2.2 hl).1 fun e=>(hF b e).2.1 ⟨p,o,x,y,hp,hl,hr⟩,((h.gam.lk p o b x y hp hr).2.2 hl).2⟩⟩,
  fun b hb=>hb.elim (h.gam.imo b) fun e=>(hF b e).2.2⟩,h.fr,fun t=>hv _ _ (h.sl t),h.nt,h.df.keep (fun _ _=>rfl) (fun _ h=>.inl h),fun g c hg=>(h.gl g c hg).keep (fun _ _=>rfl) (fun _ h=>.inl h),h.st⟩
theorem Inv.rebase(h:Inv E w0 bl I0 s H a w Im ρ)(tmps:Array Value){s':List (Nat×V)}(hnt:tmps.size=E.nt)(hs: ∀t,VRep w Im ρ (shOf H) (getV s' t) (tmps.getD t undef)):
  Inv E ⟨w,fun j=>(qah H j).map fun o=>(shp o,ρ j),[]⟩ (chg H ρ) Im s' H ⟨tmps,[]⟩ w Im ρ:=by
 refine⟨⟨h.gam.im,fun _ hb=>hb,h.gam.ob,h.gam.dj,fun p o b x y hp hr=>⟨(h.gam.lk p o b x y hp hr).1,(h.gam.lk p o b x y hp hr).2.1,fun hl=>⟨((h.gam.lk p o b x y hp hr).2.2 hl).1,.inl ⟨p,o,x,y,hp,hl,hr⟩⟩⟩,fun b hb=>.inl hb⟩,
  .refl _ _,hs,hnt,⟨[],rfl,by simp,by simp,fun _=>rfl⟩,h.gl,fun j o _ hj=>by simp only[hj,zap]⟩
theorem qq8(h:Inv E w0 bl I0 s H a w Im ρ){b:Nat}(hb:chg H ρ b): ¬Im b/\b<w.heap.size/\(bl b\/w0.w.heap.size<=b):=by obtain⟨p,o,x,y,h1,h2,h3⟩:=hb;have:=h.gam.lk p o b x y h1 h3;exact⟨(this.2.2 h2).1,this.1,(this.2.2 h2).2⟩
theorem Inv.unbase{E':Env}{s' s2:List (Nat×V)}{H':Heap}{a' a2:Act}{Im':Nat->Prop}{ρ':Nat->Loc}(h:Inv E w0 bl I0 s H a w Im ρ)(h':Inv E ⟨w,fun j=>(qah H j).map fun o=>(shp o,ρ j),[]⟩ (chg H ρ) Im s' H' a' w' Im' ρ')(ha:a2.tmps.size=E.nt)(hh:Held E w0.df w0.w.heap.size a2 w' Im')(hs: ∀t,VRep w' Im' ρ' (shOf H') (getV s2 t) (a2.tmps.getD t undef)):Inv E w0 bl I0 s2 H' a2 w' Im' ρ':=by
 have hc: ∀b,chg H ρ b->bl b\/w0.w.heap.size<=b:=fun b hb=>(qq8 h hb).2.2;refine⟨⟨h'.gam.im,fun b hb=>h'.gam.i0 b (h.gam.i0 b hb),h'.gam.ob,h'.gam.dj,fun p o b x y hp hr=>⟨(h'.gam.lk p o b x y hp hr).1,(h'.gam.lk p o b x y hp hr).2.1,fun hl=>⟨((h'.gam.lk p o b x y hp hr).2.2 hl).1, ?_⟩⟩,fun b hb=> ?_⟩,
  h.fr.trans h'.fr hc,hs,ha,hh,h'.gl,fun j o hj hg=> ?_⟩
 ·rcases((h'.gam.lk p o b x y hp hr).2.2 hl).2 with e|e
  ·exact hc b e
  ·exact .inr (zb7 h.fr.size e)
 ·rcases h'.gam.imo b hb with e|e|e
  ·exact h.gam.imo b e
  ·exact .inr (hc b e)
  ·exact .inr (.inr (zb7 h.fr.size e))
 ·have h1:=h'.st j o hj hg;have h1:(qah H j).map (fun o=>(shp o,ρ j))=some (shp o,ρ' j):=h1;obtain⟨o1,g1,g2⟩:=zaq.1 h1;rw[h.st j o1 hj g1, <- g2]
theorem xbka{s':List (Nat×V)}{H':Heap}{a':Act}{Im':Nat->Prop}{ρ':Nat->Loc}(h:Inv E w0 bl I0 s H a w Im ρ)(h':Inv E ⟨w,fun j=>(qah H j).map fun o=>(shp o,ρ j),[]⟩ (chg H ρ) Im s' H' a' w' Im' ρ'){v:V}{x:Value}(hl:lowV v=true)(hx:VRep w Im ρ (shOf H) v x):VRep w' Im' ρ' (shOf H') v x:=by
 have hk:Keep Im w w':=fun b hb=>h'.fr.block b (h.gam.im b hb) fun e=>(qq8 h e).1 hb;refine hx.congr hk h'.gam.i0 fun q hq=> ?_;have hq32:q<32:=by cases v<;>simp[lowV,qda,zb8] at hl hq;subst hq;exact hl
 cases hg:qah H' q with
 | none=>left;simp[shOf,hg]
 | some o=>
  right;have h1:(qah H q).map (fun o=>(shp o,ρ q))=some (shp o,ρ' q):=h'.st q o hq32 hg;obtain⟨o1,g1,g2⟩:=zaq.1 h1;simp only[zbh] at g2;exact⟨by simp[shOf,hg,g1,g2.1],g2.2.symm⟩
theorem qtv: ∀(s:List (Nat×V)) (t:Nat),lowV (getV (lowS s) t)=true/\getV (lowS s) t=getV s t\/getV (lowS s) t=.undef
 | [],t=>.inr rfl
 | (u,v)::r,t=>by
  simp only[lowS];have ih:=qtv r t
  cases hl:lowV v with
  | true=>
   simp only[cond_true]
   cases hb:Nat.beq u t with
   | true=>
    have e: ∀q:List (Nat×V),getV ((u,v)::q) t=v:=fun q=>by simp only[getV,qah,hb,cond_true]
    rw[e,e];exact .inl ⟨hl,rfl⟩
   | false=>
    have e: ∀q:List (Nat×V),getV ((u,v)::q) t=getV q t:=fun q=>by simp only[getV,qah,hb,cond_false]
    rw[e,e];exact ih
  | false=>
   simp only[cond_false];have e:getV (qvz (lowS r) u) t=if t=u then .undef else getV (lowS r) t:=by simp only[getV,qb0];by_cases h:t=u<;>simp[h]
   rw[e]
   cases hb:Nat.beq u t with
   | true=>rw[if_pos (qag.1 hb).symm];exact .inr rfl
   | false=>
    rw[if_neg fun h=>qa1 hb h.symm];have e:getV ((u,v)::r) t=getV r t:=by simp only[getV,qah,hb,cond_false]
    rw[e];exact ih
theorem Inv.mapB{s':List (Nat×V)}{H':Heap}{ρ':Nat->Loc}{an:Nat->Option (Sh×Loc)}(h:Inv E w0 bl I0 s H a w Im ρ){f:Nat->Nat}{g:V->V}{Bad:Nat->Prop}(hgc: ∀c,g (.cl c)=.cl c)(hg: ∀c,g c=.undef\/(g c=renV f c/\∀m,qda m c=true-> ¬Bad m))(hs: ∀t,getV s' t=.undef\/getV s' t=g (getV s t))(hH: ∀q o',qah H' q=some o'->∃p o,qah H p=some o/\f p=q/\ρ' q=ρ p/\o'= {o with row:=qom g o.row})(hb: ∀m, ¬Bad m->shOf H' (f m)=none\/(shOf H' (f m)=shOf H m/\ρ' (f m)=ρ m))(hst: ∀j o,j<32->qah H' j=some o->an j=some (shp o,ρ' j)):Inv E ⟨w0.w,an,w0.df⟩ bl I0 s' H' a w Im ρ':=by
 refine⟨h.gam.map hgc hg hH hb,h.fr,fun t=> ?_,h.nt,h.df,h.gl,hst⟩;rcases hs t with e|e
 ·rw[e];exact .undef _
 ·rw[e];exact q2d hg hb _ _ (h.sl t)
def OnT(E:Env)(w0:Base)(bl I0:Nat->Prop)(T:List Nat)(σ:St)(a:Act)(w:World):Prop:= ∃an,(∀j,j<32->j∉T->∀z,an j=some z->w0.an j=some z)/\On E ⟨w0.w,an,w0.df⟩ bl I0 σ a w
theorem OnT.mono{T T':List Nat}{σ:St}(h:OnT E w0 bl I0 T σ a w)(hT: ∀j∈T,j∈T'):OnT E w0 bl I0 T' σ a w:=
 let ⟨an,h1,h2⟩:=h;⟨an,fun j hj hn=>h1 j hj fun e=>hn (hT j e),h2⟩
theorem OnT.renameLow{T:List Nat}{σ:St}(h:OnT E w0 bl I0 T σ a w)(p q:Nat):OnT E w0 bl I0 (q::T) (rename p q σ) a w:=by
 obtain⟨an0,han,Im,ρ,h⟩:=h;have hone: ∀x,one2 p q x=if x=p then q else x:=fun x=>by
  unfold one2
  cases hb:Nat.beq x p with
  | true=>simp[qag.1 hb]
  | false=>simp[qa1 hb]
 have hget: ∀(x:Nat) (o':Obj),qah (YtoiikagnjcjccaaGreatDoorA.rename p q σ).heap x=some o'->∃p' o,qah σ.heap p'=some o/\p'≠q/\one2 p q p'=x/\o'= {o with row:=qom (fun c=>renV (one2 p q) (cond (qda q c) .undef c)) o.row}:=fun x o' hx=>by
  obtain⟨p',o,h1,h2,h3⟩:=qhm _ _ _ _ hx;change qah (q49 q σ.heap) p'=some o at h1;rw[qeo] at h1;split at h1
  ·cases h1
  ·rename_i hne;obtain⟨u,hu,rfl⟩:=zaq.1 h1;refine⟨p',u,hu,hne,h2, ?_⟩;rw[h3];obtain⟨row,lock⟩:=u;cases row<;>simp[q5a,qgk,qom,q0a,zdg]
 have hsrc: ∀p' x,p'≠q->one2 p q p'=x->(x=q/\p'=p)\/(x≠q/\p'=x):=fun p' x hne hx=>by
  rw[hone] at hx;split at hx
  ·rename_i e;exact .inl ⟨hx.symm,e⟩
  ·exact .inr ⟨by rw[<- hx];exact hne,hx⟩
 refine⟨fun j=>(qah (YtoiikagnjcjccaaGreatDoorA.rename p q σ).heap j).map fun o=>(shp o,if j=q then ρ p else ρ j),fun j hj hn z hz=> ?_,Im,fun x=>if x=q then ρ p else ρ x,
  h.mapB (f:=one2 p q) (g:=fun c=>renV (one2 p q) (cond (qda q c) .undef c)) (Bad:=fun m=>m=q) (fun c=>rfl) (fun c=> ?_) (fun t=>.inr ?_) (fun x o' hx=> ?_) (fun m hm=> ?_) fun j o _ hj=>by simp only[hj,zap]⟩
 ·simp only[zar,not_or] at hn;obtain⟨o',hx,rfl⟩:=zaq.1 hz;obtain⟨p',o,h1,h2,h3,h4⟩:=hget j o' hx;rcases hsrc p' j h2 h3 with⟨e1,e2⟩|⟨e1,e2⟩
  ·exact absurd e1 hn.1
  ·subst e2;have:=h.st p' o hj h1;rw[h4,qff,if_neg e1];exact han p' hj hn.2 _ this
 ·cases hb:qda q c with
  | true=>left;rfl
  | false=>right;exact⟨rfl,fun m hm e=>by subst e;rw[hb] at hm;cases hm⟩
 ·show getV (renS (one2 p q) (xbj3 q σ.slots)) t=_;rw[qtw,qhr]
 ·obtain⟨p',o,h1,h2,h3,h4⟩:=hget x o' hx;refine⟨p',o,h1,h3, ?_,h4⟩;rcases hsrc p' x h2 h3 with⟨e1,e2⟩|⟨e1,e2⟩
  ·rw[if_pos e1,e2]
  ·rw[if_neg e1,e2]
 ·cases hx:qah (YtoiikagnjcjccaaGreatDoorA.rename p q σ).heap (one2 p q m) with
  | none=>left;simp[shOf,hx]
  | some o'=>
   right;obtain⟨p',o,h1,h2,h3,h4⟩:=hget _ o' hx;have hpm:p'=m:=by
    rcases hsrc p' _ h2 h3 with⟨e1,e2⟩|⟨e1,e2⟩
    ·rcases hsrc m _ hm rfl with⟨e3,e4⟩|⟨e3,e4⟩
     ·rw[e2,e4]
     ·exact absurd e1 e3
    ·rcases hsrc m _ hm rfl with⟨e3,e4⟩|⟨e3,e4⟩
     ·exact absurd e3 e1
     ·rw[e2, <- e4]
   subst hpm;refine⟨?_, ?_⟩
   ·simp only[shOf,hx,h1,zap,h4];rw[qff]
   ·show(if one2 p q p'=q then ρ p else ρ (one2 p q p'))=ρ p';rcases hsrc p' _ h2 rfl with⟨e1,e2⟩|⟨e1,e2⟩
    ·rw[if_pos e1,e2]
    ·rw[if_neg e1, <- e2]
theorem OnT.lowAll: ∀(l:List (Nat×Nat)) {T:List Nat} {σ:St},OnT E w0 bl I0 T σ a w->OnT E w0 bl I0 (l.map (·.2)++T) (lowAll l σ) a w
 | [],T,σ,h=>h
 | (p,q)::r,T,σ,h=>by
  simp only[YtoiikagnjcjccaaGreatDoorA.lowAll];refine(OnT.lowAll r (h.renameLow p q)).mono fun j hj=> ?_;simp only[zbz,zak,zar] at hj ⊢;rcases hj with hj|hj|hj
  ·exact .inl (.inr hj)
  ·exact .inl (.inl hj)
  ·exact .inr hj
theorem On.vacAll: ∀(l:List Nat) {σ:St},On E w0 bl I0 σ a w->On E w0 bl I0 (vacAll l σ) a w
 | [],σ,h=>h
 | p::r,σ,h=>On.vacAll r (On.vacate h p)
theorem On.lowS{σ:St}(h:On E w0 bl I0 σ a w):On E w0 bl I0 ⟨lowS σ.slots,σ.heap⟩ a w:=by obtain⟨Im,ρ,h⟩:=h;refine⟨Im,ρ,h.map (f:=fun p=>p) (g:=fun c=>c) (Bad:=fun _=>False) (fun c=>rfl) (fun c=>.inr ⟨(qjz c).symm,fun _ _ h=>h⟩) (fun t=>(qtv σ.slots t).elim (fun h=>.inr h.2) .inl) (fun x o' hx=> ?_) fun x _=>.inr ⟨rfl,rfl⟩⟩;refine⟨x,o',hx,rfl,rfl, ?_,fun _=>rfl⟩;obtain⟨row,lock⟩:=o';cases row<;>simp[qom]
theorem On.high{an:Nat->Option (Sh×Loc)}{T:List Nat}{σ:St}(h:On E ⟨w0.w,an,w0.df⟩ bl I0 σ a w)(han: ∀j,j<32->j∉T->∀z,an j=some z->w0.an j=some z)(hT: ∀j∈T,qah σ.heap j=none):On E w0 bl I0 σ a w:=by obtain⟨Im,ρ,h⟩:=h;refine⟨Im,ρ,h.gam,h.fr,h.sl,h.nt,h.df,h.gl,fun j o hj hg=>han j hj (fun e=> ?_) _ (h.st j o hj hg)⟩;rw[hT j e] at hg;cases hg
def xbcw(W:World)(Fz:Nat->Prop)(x:List CV)(vs:List Value):Prop:=vs.length=x.length/\∀(j:Nat) (c:CV) (v:Value),x[j]? =some c->vs[j]? =some v->CRep W Fz c v
theorem xbcw.mono{W:World}{Fz Fz':Nat->Prop}{x:List CV}{vs:List Value}(h:xbcw W Fz x vs)(hm: ∀b,Fz b->Fz' b):xbcw W Fz' x vs:=⟨h.1,fun j c v hj hv=>(h.2 j c v hj hv).keep (fun _ _=>rfl) hm⟩
def xbr8(P:Program)(glob:Nat->Option CV)(gf:FuncId)(as:List V)(objs:List Obj)(xs:List (List CV)):Prop:=
 ∀(w:World) (Im:Nat->Prop) (ρ:Nat->Loc) (bl:Nat->Prop) (vs:List Value),Pre glob w Im ρ bl as objs vs->
 ∀(l:Nat) (J:List (List CV)->(Nat->Prop)->(Nat->Prop)->World->Prop) (Jx:(Nat->Prop)->(Nat->Prop)->World->Prop),
  (∀r O C W W' Ch,J r O C W->Fr W Ch W'->(∀b,Ch b-> ¬O b)->J r O C W')->(∀O C W W' Ch,Jx O C W->Fr W Ch W'->(∀b,Ch b-> ¬O b)->Jx O C W')->
  (∀r O C W,J r O C W->(∀b,O b->b<W.heap.size)/\∀b,C b->O b)->(∀O C W,Jx O C W->(∀b,O b->b<W.heap.size)/\∀b,C b->O b)->
  (∀x r O C W Fz vs,J (x::r) O C W->(∀b,Fz b->b<W.heap.size/\¬C b/\(Im b\/bl b\/w.heap.size<=b))->xbcw W Fz x vs->YieldAt Fence.wide 0 P l vs.toArray W fun e W'=> ∃O' C',Fr W C W'/\(∀b,O' b->O b\/Fz b\/W.heap.size<=b)/\(∀b,C' b->C b\/W.heap.size<=b)/\
   ((e=.returned (.bool true)/\J r O' C' W')\/(e=.returned (.bool false)/\Jx O' C' W')))->
  ∀O C,J xs O C w->(∀b,C b-> ¬Im b/\¬bl b)->(∀b,O b-> ¬bl b)->
  CallsIn Fence.wide 0 P gf (#[.func (.yield l) #[] #[]]++vs.toArray) w fun e W'=>(∃v,e=.returned v)/\∃O' C',J [] O' C' W'\/Jx O' C' W'
def qfh(P:Program)(E:Env):Prop:= ∀gf as objs xs,E.pre gf as objs=true->E.sq gf as objs=some xs->xbr8 P E.glob gf as objs xs/\(∃fn,P.funcs[gf]? =some fn/\fn.body.isSome=true/\(fn.name== "runtime.NumGoroutine")=false)
end
def Meet:Ex->Exit->World->(Nat->Prop)->Prop
 | .normal,.normal,_,_=>True
 | .exit i,.exit j,_,_=>i=j
 | .ret,.ret,_,_=>True
 | .pan c,.panic ch,w,Im=> ∃x,ch=[{v:=x,recovered:=false}]/\CRep w Im c x
 | _,_,_,_=>False
def Lands(E:Env)(w0:Base)(bl I0:Nat->Prop){β:Type}(k:Ex->St->Option β)(r:β)(e:Exit)(a:Act)(w:World):Prop:=
 ∃ex σ Im ρ,k ex σ=some r/\Inv E w0 bl I0 σ.slots σ.heap a w Im ρ/\Meet ex e w Im
section
variable {P:Program} {β:Type} {E:Env} {w0:Base} {bl I0:Nat->Prop}
theorem Inv.skipped{s:List (Nat×V)}{H:Heap}{a:Act}{w:World}{Im:Nat->Prop}{ρ:Nat->Loc}(h:Inv E w0 bl I0 s H a w Im ρ)(d:Option Tmp):Inv E w0 bl I0 (setD s d (.tup [])) H (a.put d undef) w Im ρ:=by
 refine⟨h.gam,h.fr,fun t=> ?_, ?_, ?_,h.gl,h.st⟩
 ·rw[qdk];split
  ·rename_i he;have:(a.put d undef).tmps.getD t undef=undef:=by subst he;simp only[Act.put];rw[zay,zbx];by_cases ht:t<a.tmps.size<;>simp[ht]
   rw[this];exact .tup [] [] rfl (by simp)
  ·rename_i hne
   cases d with
   | none=>simpa [Act.put] using h.sl t
   | some d=>
    have e: ¬d=t:=fun h=>hne (by rw[h]);have:=h.sl t;simp only[Act.put];rw[zay,zbx];rw[zay] at this;simpa [e] using this
 ·cases d<;>simp[Act.put,h.nt]
 ·cases d<;>exact h.df
theorem q5o{s:List (Nat×V)}{H:Heap}{a:Act}{w:World}{Im:Nat->Prop}{ρ:Nat->Loc}{o:Op}{f:List (Nat×V)->Option β}{r:β}(h:xbhw E s o f=some r)(hI:Inv E w0 bl I0 s H a w Im ρ):
  ∃s',f s'=some r/\Inv E w0 bl I0 s' H a w Im ρ:=by
 unfold xbhw at h;split at h
 ·obtain⟨b,s',h1,h2,_⟩:=qfx h hI;exact⟨s',h1,h2⟩
 ·split at h
  ·split at h
   ·obtain⟨b,s',h1,h2,_⟩:=qfx h hI;exact⟨s',h1,h2⟩
   ·exact⟨s,h,hI⟩
  ·exact⟨s,h,hI⟩
 ·exact⟨s,h,hI⟩
theorem qq1{ops:Array Oper}{tmps:Array Value}{j d:Nat}{b:Bool}(hd:(ops[j]?).bind (·.dst)=some d)(hv:tmps.getD d undef=.bool b):yielded ops tmps j=some b:=by
 have:tmps[d]? =some (.bool b):=by
  rw[zay] at hv
  cases h:tmps[d]? with
  | none=>rw[h] at hv;cases hv
  | some x=>rw[h] at hv;simpa using hv
 simp[yielded,hd,this]
theorem q7b{x y:Option β}{r:β}(h:xbjg x y=some r):x=some r/\y=some r:=by
 unfold xbjg at h;by_cases e:x=y
 ·rw[if_pos e] at h;exact⟨h,e▸h⟩
 ·rw[if_neg e] at h;cases h
theorem q0l{w:World}{Im:Nat->Prop}{ρ:Nat->Loc}{S:Nat->Option Sh}{v:V}{x:Value}{n:Option Nat}(h:qec v=some n)(hx:VRep w Im ρ S v x):
  ∃a len cap,x=.slice a len cap/\(n=none->a=none)/\∀m,n=some m->a=none->m=0:=by
 cases hx with
 | nils=>simp[qec] at h;subst h;exact⟨none,0,0,rfl,fun _=>rfl,fun m hm=>by cases hm⟩
 | cl c _ hc=>
  cases hc with
  | sli k l a len cap h1 h2 h3=>
   simp[qec] at h;subst h;refine⟨a,len,cap,rfl,fun hn=>(by cases hn),fun m hm ha=> ?_⟩;simp only[zaa] at hm;subst hm ha
   cases l with
   | nil=>rfl
   | cons z r=>
    obtain⟨ad,e,_⟩:=h3 0 z rfl;cases e
  | slg e l a len cap f h1 h2 h3 h4 h5 h6=>
   simp only[qec] at h
   cases he:Nat.beq e 0 with
   | true=>rw[he] at h;cases h
   | false=>
    rw[he] at h;simp only[cond_false,zaa] at h;subst h;refine⟨a,len,cap,rfl,fun hn=>(by cases hn),fun m hm ha=> ?_⟩;simp only[zaa] at hm;subst hm ha
    cases l with
    | nil=>rfl
    | cons z r=>
     have hz:=h1 z (by simp)
     cases hc1:cell1 z with
     | nil=>rw[hc1] at hz;exact absurd hz.symm (qa1 he)
     | cons d ds=>
      obtain⟨ad,e',_⟩:=h4 0 d (by simp[hc1]);cases e'
  | _=>simp[qec] at h
 | refN p o len tip e a cap h1 h2 h3=>
  simp[qec] at h;subst h;refine⟨a,len,cap,rfl,fun hn=>(by cases hn),fun m hm ha=> ?_⟩;simp only[zaa] at hm;subst hm ha;by_cases hl:len=0
  ·exact hl
  ·have:=h3 hl;cases this
 | refV p s tip e h1 h2 h3 h4=>
  simp[qec] at h;subst h;exact⟨none,0,0,rfl,fun hn=>(by cases hn),fun m hm _=>by cases hm;rfl⟩
 | ref p o len tip e s b base lim ad cap h1 h2 h3 h4 h5 h6 h7 h8=>
  simp[qec] at h;subst h;exact⟨some ad,len,cap,rfl,fun hn=>(by cases hn),fun m hm ha=>by cases ha⟩
 | _=>simp[qec] at h
theorem q5m{P:Program}{E:Env}{s:List (Nat×V)}{H:Heap}{a:Act}{w:World}{Im:Nat->Prop}{ρ:Nat->Loc}{o:Oper}{neg:Bool}{n:Option Nat}(h:q2g P E s o.op=some (neg,n))(hI:Inv E w0 bl I0 s H a w Im ρ):
  ∃b:Bool,(execOp a.eval o).run P w=.ok (.value (.bool (cond neg (!b) b))) w/\(n=none->b=true)/\∀m,n=some m->b=true->m=0:=by
 have key: ∀(t:TypeId) (x:Operand) (neg:Bool),(match kd P t with|.slice _=>(qec (opd E s x)).map fun n=>(neg,n)|_=>none)=some (neg,n)->
   ∃b:Bool,(Op.equal t (a.eval x) (.slice none 0 0)).run P w=.ok b w/\(∃ad len cap,a.eval x=.slice ad len cap)/\(n=none->b=true)/\∀m,n=some m->b=true->m=0:=fun t x neg h=>by
  split at h
  ·rename_i e hk;obtain⟨n',hn,he⟩:=zaq.1 h;simp only[zbh,true_and] at he;subst he;obtain⟨ad,len,cap,hx,h1,h2⟩:=q0l hn (hI.opd x);have hu:=qb5 hk;refine⟨ad.isNone, ?_,⟨ad,len,cap,hx⟩,fun hn=>by rw[h1 hn];rfl,fun m hm hb=>h2 m hm (by simpa using hb)⟩;rw[hx];have e: ∀d:Nat,(Op.equalIn (d+1) t (.slice ad len cap) (.slice none 0 0)).run P w=.ok ad.isNone w:=fun d=>by cases ad<;>simp[Op.equalIn,underlying,hu]
   exact e 9999
  ·cases h
 have key2: ∀(t:TypeId) (x:Operand) (neg:Bool),(match P.underlying t with|some (.interface _)=>(qty (opd E s x)).map fun n=>(neg,n)|_=>none)=some (neg,n)->
   ∃b:Bool,(Op.equal t (a.eval x) .nilIface).run P w=.ok b w/\(a.eval x=.nilIface\/∃ty v,a.eval x=.iface ty v)/\(n=none->b=true)/\∀m,n=some m->b=true->m=0:=fun t x neg h=>by
  split at h
  ·rename_i ms hu;obtain⟨n',hn,he⟩:=zaq.1 h;simp only[zbh,true_and] at he;subst he;have e0: ∀d:Nat,(Op.equalIn (d+1) t .nilIface .nilIface).run P w=.ok true w:=fun d=>by simp[Op.equalIn,underlying,hu]
   have e1: ∀(d:Nat) (ty:TypeId) (v:Value),(Op.equalIn (d+1) t (.iface ty v) .nilIface).run P w=.ok false w:=fun d ty v=>by simp[Op.equalIn,underlying,hu]
   have hv:=hI.opd x;generalize opd E s x=vx at hv hn;generalize a.eval x=ax at hv ⊢;unfold qty at hn;split at hn
   ·have:=hv.closed;cases this;simp only[zaa] at hn;subst hn;exact⟨true,e0 9999,.inl rfl,fun _=>rfl,fun m hm=>by cases hm⟩
   ·have:=hv.closed;cases this;simp only[zaa] at hn;subst hn;exact⟨false,e1 9999 _ _,.inr ⟨_,_,rfl⟩,fun hm=>(by cases hm),fun m _ hb=>(by cases hb)⟩
   ·cases hv;simp only[zaa] at hn;subst hn;exact⟨false,e1 9999 _ _,.inr ⟨_,_,rfl⟩,fun hm=>(by cases hm),fun m _ hb=>(by cases hb)⟩
   ·cases hn
  ·cases h
 unfold q2g at h;split at h
 ·rename_i t x yt hop;have hneg:neg=false:=by
   split at h
   ·obtain⟨n',_,he⟩:=zaq.1 h;simp only[zbh] at he;exact he.1.symm
   ·cases h
  subst hneg;obtain⟨b,h1,⟨ad,len,cap,hx⟩,h2,h3⟩:=key t x false h;refine⟨b, ?_,h2,h3⟩;unfold execOp;simp only[hop];rw[hx] at h1 ⊢;have:a.eval (.const (.slice none 0 0))=.slice none 0 0:=rfl;rw[this,eqGuard_at_slice];simp[binOp,h1]
 ·rename_i t x yt hop;have hneg:neg=true:=by
   split at h
   ·obtain⟨n',_,he⟩:=zaq.1 h;simp only[zbh] at he;exact he.1.symm
   ·cases h
  subst hneg;obtain⟨b,h1,⟨ad,len,cap,hx⟩,h2,h3⟩:=key t x true h;refine⟨b, ?_,h2,h3⟩;unfold execOp;simp only[hop];rw[hx] at h1 ⊢;have:a.eval (.const (.slice none 0 0))=.slice none 0 0:=rfl;rw[this,eqGuard_at_slice];simp[binOp,h1]
 ·rename_i t x yt hop;have hneg:neg=false:=by
   split at h
   ·obtain⟨n',_,he⟩:=zaq.1 h;simp only[zbh] at he;exact he.1.symm
   ·cases h
  subst hneg;obtain⟨b,h1,hx,h2,h3⟩:=key2 t x false h;refine⟨b, ?_,h2,h3⟩;unfold execOp;simp only[hop];have:a.eval (.const .nilIface)=.nilIface:=rfl;rw[this];rcases hx with hx|⟨ty,v,hx⟩
  ·rw[hx] at h1 ⊢;simp[binOp,h1,eqGuard]
  ·rw[hx] at h1 ⊢;rw[eqGuard_at_iface];simp[binOp,h1]
 ·rename_i t x yt hop;have hneg:neg=true:=by
   split at h
   ·obtain⟨n',_,he⟩:=zaq.1 h;simp only[zbh] at he;exact he.1.symm
   ·cases h
  subst hneg;obtain⟨b,h1,hx,h2,h3⟩:=key2 t x true h;refine⟨b, ?_,h2,h3⟩;unfold execOp;simp only[hop];have:a.eval (.const .nilIface)=.nilIface:=rfl;rw[this];rcases hx with hx|⟨ty,v,hx⟩
  ·rw[hx] at h1 ⊢;simp[binOp,h1,eqGuard]
  ·rw[hx] at h1 ⊢;rw[eqGuard_at_iface];simp[binOp,h1]
 ·cases h
theorem xbeb{n:Option Nat}{f:Bool->Option β}{r:β}(h:nilK n f=some r){b:Bool}(h1:n=none->b=true)(h2: ∀m,n=some m->b=true->m=0):f b=some r:=by
 unfold nilK at h;split at h
 ·rw[h1 rfl];exact h
 ·rename_i m
  cases hm:Nat.beq m 0 with
  | true=>
   rw[hm] at h;simp only[cond_true] at h;obtain⟨g1,g2⟩:=q7b h;cases b
   ·exact g2
   ·exact g1
  | false=>
   rw[hm] at h;simp only[cond_false] at h;cases b
   ·exact h
   ·exact absurd (h2 m rfl rfl) (qa1 hm)
theorem qzp{s:List (Nat×V)}{H:Heap}{a:Act}{w:World}{Im:Nat->Prop}{ρ:Nat->Loc}{d:Nat}{want:Bool}{go skip:List (Nat×V)->Option β}{r:β}(h:q46 s d want go skip=some r)(hI:Inv E w0 bl I0 s H a w Im ρ):
  ∃s',Inv E w0 bl I0 s' H a w Im ρ/\((go s'=some r/\a.tmps.getD d undef=.bool want)\/(skip s'=some r/\∀b,a.tmps.getD d undef=.bool b->b≠want)):=by
 unfold q46 at h;split at h
 ·rename_i hd;refine⟨s,hI,.inr ⟨h,fun b hb=> ?_⟩⟩;have:=hI.sl d;rw[hd,hb] at this;cases this
 ·obtain⟨b,s',h1,h2,h3⟩:=qfx h hI;refine⟨s',h2, ?_⟩;cases b<;>cases want<;>simp only at h1
  ·exact .inl ⟨h1,h3⟩
  ·exact .inr ⟨h1,fun b hb=>by rw[h3] at hb;cases hb;simp⟩
  ·exact .inr ⟨h1,fun b hb=>by rw[h3] at hb;cases hb;simp⟩
  ·exact .inl ⟨h1,h3⟩
theorem qrz{ops:Array Oper}{tmps:Array Value}{j d:Nat}{want:Bool}(hd:(ops[j]?).bind (·.dst)=some d)(hv: ∀b,tmps.getD d undef=.bool b->b≠want):(yielded ops tmps j==some want)=false:=by
 unfold yielded;rw[hd,zaf];rw[zay] at hv;split
 ·rename_i b hb;have:=hv b (by rw[hb];rfl);cases b<;>cases want<;>simp_all
 ·rfl
theorem q0n{w:World}{Im:Nat->Prop}{ρ:Nat->Loc}{S:Nat->Option Sh}{b:Bool}{v:V}{x:Value}{f:V->Option β}{r:β}(h:xbfb b v f=some r)(hv:VRep w Im ρ S v x): ∃v',f v'=some r/\VRep w Im ρ S v' x:=by
 unfold xbfb at h
 cases b with
 | false=>exact⟨v,h,hv⟩
 | true=>
  simp only[cond_true] at h;split at h
  ·rename_i c
   cases c with
   | true=>exact⟨_,h,hv⟩
   | false=>exact⟨_,h,hv⟩
  ·exact⟨_,h,hv⟩
theorem xbbk{w:World}{Im:Nat->Prop}{ρ:Nat->Loc}{S:Nat->Option Sh}{o:Op}{v:V}{x:Value}(h:VRep w Im ρ S v x):VRep w Im ρ S (xbfd o v) x:=by
 unfold xbfd;split
 ·unfold xbrq;split
  ·cases h.closed with
   | is c v _ h=>exact .cl _ _ h
  ·exact h
 ·exact h
theorem qc4(hE: ∀g,Sound P E.glob g (ctr E g)){ops:Array Oper}{Q:Exit->Act->World->Prop}{k:Ex->St->Option β}{r:β}(hQ: ∀e a w,Lands E w0 bl I0 k r e a w->Q e a w):
  ∀(l:List Oper) (σ:St) (a:Act) (w:World),opsK P E ops l σ k=some r->On E w0 bl I0 σ a w->wpList P ops Q l a w
 | [],σ,a,w,h,⟨Im,ρ,hI⟩=>hQ _ _ _ ⟨.normal,σ,Im,ρ,h,hI,trivial⟩
 | o::rest,σ,a,w,h,⟨Im,ρ,hI⟩=>by
  have go: ∀s,Inv E w0 bl I0 s σ.heap a w Im ρ->(xbhw E s o.op fun s=>match q2g P E s o.op with
   | some (neg,n)=>cond (xbcn E o) (nilK n fun b=>opsK P E ops rest ⟨setD s o.dst (.cl (.bool (cond neg (!b) b))),σ.heap⟩ k) none
   | none=>cond (xbcp s σ.heap (makes E o)&&xbcn E o) (
    cond (E.ak (ql2 o)) (akK P E s σ.heap o fun v u=>opsK P E ops rest ⟨setD s o.dst v,updH σ.heap u⟩ k)
    (opK P E s σ.heap o (fun v u=>xbfb (xbrl E o.dst) (xbfd o.op v) fun v=>opsK P E ops rest ⟨setD s o.dst v,updH σ.heap u⟩ k) (fun c u=>k (.pan c) ⟨s,updH σ.heap u⟩))) none)=some r->o.wp P a w (wpList P ops Q rest) Q:=fun s hs hgo=>by
   obtain⟨s',h1,h2⟩:=q5o hgo hs;split at h1
   ·rename_i neg n hnt;obtain⟨hd,h1⟩:=qaa h1;obtain⟨b,g1,g2,g3⟩:=q5m hnt h2;have hd: ∀t,o.dst=some t->t<E.nt:=fun t ht=>by simp only[xbcn,ht] at hd;simpa [zb8] using hd
    exact qfr g1 (qc4 hE hQ rest _ _ _ (xbeb h1 g2 g3) ⟨Im,ρ,h2.put hd (.ofBool _)⟩)
   replace h1:=qaa h1;obtain⟨hc,h1⟩:=h1;simp only[zab] at hc;have hd: ∀t,o.dst=some t->t<E.nt:=fun t ht=>by have:=hc.2;simp only[xbcn,ht] at this;simpa [zb8] using this
   cases hak:E.ak (ql2 o) with
   | true=>
    rw[hak,cond_true] at h1;exact xbcy h1 h2 (fun p hp=>qfz hc.1 p hp) fun v u x w' Im' ρ' hk hI' hv'=>qc4 hE hQ rest _ _ _ hk ⟨Im',ρ',hI'.put hd hv'⟩
   | false=>
   rw[hak,cond_false] at h1;refine qup hE h1 h2 (fun p hp=>qfz hc.1 p hp) (fun v u x w' Im' ρ' hk hI' hv'=> ?_) fun c u x w' Im' ρ' hk hI' hc'=> ?_
   ·obtain⟨v',hk,hv'⟩:=q0n hk (xbbk hv');exact qc4 hE hQ rest _ _ _ hk ⟨Im',ρ',hI'.put hd hv'⟩
   ·exact hQ _ _ _ ⟨.pan c,_,Im',ρ',hk,hI',x,rfl,hc'⟩
  simp only[opsK] at h;unfold wpList
  cases hg:o.guard with
  | none=>
   rw[if_pos (by simp[Region.wanted,hg])];simp only[hg] at h;exact .inl (go _ hI h)
  | some jw=>
   obtain⟨j,want⟩:=jw;simp only[hg] at h
   cases hd:(ops[j]?).bind (·.dst) with
   | none=>simp only[hd] at h;cases h
   | some d=>
    simp only[hd] at h;obtain⟨s',h2,⟨h1,h3⟩|⟨h1,h3⟩⟩:=qzp h hI
    ·have hy:=qq1 hd h3;rw[if_pos (by simp[Region.wanted,hg,hy])];exact .inl (go _ h2 h1)
    ·have hy:=qrz hd h3;rw[if_neg (by simp[Region.wanted,hg,hy])];exact qc4 hE hQ rest _ _ _ h1 ⟨Im,ρ,h2.skipped _⟩
def q6b(P:Program)(E:Env):Prop:= ∀(β:Type) (w0:Base) (bl I0:Nat->Prop) (id:Nat) (ops:Array Oper) (Q:Exit->Act->World->Prop) (k:Ex->St->Option β) (r:β) (σ:St) (a:Act) (w:World),
 (∀e a w,Lands E w0 bl I0 k r e a w->Q e a w)->q7p ops (Region.before ops)=true->xbcp σ.slots σ.heap (ops.toList.flatMap (makes E))=true->xbc6 P E ops (Region.before ops) 0 [] ops.toList σ k=some r->On E w0 bl I0 σ a w->(Code.region id ops true).wp P Q a w
theorem qrp{c:Code}{b:St->(Ex->St->Option β)->Option β}{hd:St->St}{Q:Exit->Act->World->Prop}{k:Ex->St->Option β}{r:β}(hQ: ∀e a w,Lands E w0 bl I0 k r e a w->Q e a w)(hb: ∀(k':Ex->St->Option β) (Q':Exit->Act->World->Prop) (σ:St) (a:Act) (w:World),(∀e a w,Lands E w0 bl I0 k' r e a w->Q' e a w)->b σ k'=some r->On E w0 bl I0 σ a w->c.wp P Q' a w)(hh: ∀σ a w,On E w0 bl I0 σ a w->On E w0 bl I0 (hd σ) a w): ∀(n:Nat) (σ:St) (a:Act) (w:World),qwl n b hd σ k=some r->On E w0 bl I0 σ a w->Code.rounds P c Q n a w
 | 0,σ,a,w,h,_=>by cases h
 | n+1,σ,a,w,h,hO=>by
  simp only[qwl] at h;rw[rounds_succ];refine hb _ _ σ a w (fun e a w hl=> ?_) h hO;obtain⟨ex,σ',Im,ρ,h1,h2,h3⟩:=hl
  cases ex with
  | normal=>
   cases e<;>first|exact h3.elim|skip
   exact qrp hQ hb hh n _ _ _ h1 (hh _ _ _ ⟨Im,ρ,h2⟩)
  | exit i=>
   cases e<;>first|exact h3.elim|skip
   exact hQ _ _ _ ⟨_,σ',Im,ρ,h1,h2,h3⟩
  | ret=>
   cases e<;>first|exact h3.elim|skip
   exact hQ _ _ _ ⟨_,σ',Im,ρ,h1,h2,h3⟩
  | pan c=>
   cases e<;>first|exact h3.elim|skip
   exact hQ _ _ _ ⟨_,σ',Im,ρ,h1,h2,h3⟩
abbrev FW(l:Nat):Fence:=Fence.wide.inRound l
theorem xbr7{l:Nat}{o:Oper}{a:Act}{w:World}{next:Act->World->Prop}{Q:Exit->Act->World->Prop}(hd: ∀c,o.op≠.defer c)(h:o.wp P a w next Q):o.wpIn (FW l) 0 P a w next Q:=by
 refine⟨fun _ _=>trivial, ?_⟩;have e:Oper.semAt (FW l).round a.eval o=execOp a.eval o:=Oper.semAt_some l _ o hd;rw[e];unfold Oper.wp at h;generalize (execOp a.eval o).run P w=res at h
 cases res with
 | halt x w'=>cases x<;>first|exact h|exact h.elim
 | ok x w'=>
  cases x with
  | enter f args=>exact⟨fun h=>by simp[Fence.wide] at h,(callsIn_wide (n:=0)).2 h⟩
  | row row args=>
   refine⟨fun h=>by simp[Fence.wide] at h,fun c cs _=> ?_⟩;obtain⟨v,w2,h1,h2⟩:=h c cs;exact⟨v,w2,h1,stepsIn_wide.2 h2⟩
  | _=>first|exact h|exact h.elim
theorem qnk{l:Nat}{ops:Array Oper}{Q:Exit->Act->World->Prop}(hq: ¬LetsOut Q): ∀(os:List Oper) (a:Act) (w:World),(∀o∈os, ∀c,o.op≠.defer c)->wpList P ops Q os a w->wpListIn (FW l) 0 P ops Q os a w
 | [],a,w,_,h=>h
 | o::r,a,w,hd,h=>by
  unfold wpList at h;unfold wpListIn;by_cases hw:Region.wanted o (yielded ops a.tmps)=true
  ·rw[if_pos hw] at h ⊢;have h:=h.resolve_right fun h=>hq h.2;have h:=xbr7 (l:=l) (hd o (by simp)) h;refine⟨h.1, ?_⟩;have h:=h.2;generalize (Oper.semAt (FW l).round a.eval o).run P w=res at h ⊢;have ih:=fun a w=>qnk (l:=l) (ops:=ops) hq r a w fun o ho=>hd o (by simp[ho])
   cases res with
   | halt x w'=>cases x<;>first|exact h|exact h.elim
   | ok x w'=>
    cases x with
    | enter f args=>
     refine⟨h.1,h.2.1,fun cs hcs=> ?_⟩;obtain⟨e,w2,fr,h1,h2⟩:=h.2.2 cs hcs;refine⟨e,w2,fr, ?_,h2⟩;cases e<;>first|exact ih _ _ h1|exact h1
    | row row args=>
     refine⟨h.1,fun c cs hcs=> ?_⟩;obtain⟨v,w2,h1,h2⟩:=h.2 c cs hcs;exact⟨v,w2,ih _ _ h1,h2⟩
    | round l f tmps assign body=>
     refine⟨h.1,h.2.1,fun c cs hcs=> ?_⟩;obtain⟨e,w2,h1,h2⟩:=h.2.2 c cs hcs;refine⟨e,w2, ?_,h2⟩;cases e<;>first|exact ih _ _ h1|exact h1
    | _=>first|exact ih _ _ h|exact h.elim
  ·rw[if_neg hw] at h ⊢;exact⟨fun _ _=>trivial,qnk hq r _ _ (fun o ho=>hd o (by simp[ho])) h⟩
theorem qoh{k:Ex->St->Option β}{r:β}: ¬LetsOut (Lands E w0 bl I0 k r):=fun⟨a,w,ex,σ,Im,ρ,_,_,h⟩=>by cases ex<;>exact h
theorem qnu{l:Nat}{c:Code}{b:St->(Ex->St->Option β)->Option β}{hd:St->St}{Q:Exit->Act->World->Prop}{k:Ex->St->Option β}{r:β}(hQ: ∀e a w,Lands E w0 bl I0 k r e a w->Q e a w)(hb: ∀(k':Ex->St->Option β) (Q':Exit->Act->World->Prop) (σ:St) (a:Act) (w:World),(∀e a w,Lands E w0 bl I0 k' r e a w->Q' e a w)->b σ k'=some r->On E w0 bl I0 σ a w->c.wpIn (FW l) 0 P Q' a w)(hh: ∀σ a w,On E w0 bl I0 σ a w->On E w0 bl I0 (hd σ) a w): ∀(n:Nat) (σ:St) (a:Act) (w:World),qwl n b hd σ k=some r->On E w0 bl I0 σ a w->Code.roundsIn (FW l) 0 P c Q n a w
 | 0,σ,a,w,h,_=>by cases h
 | n+1,σ,a,w,h,hO=>by
  simp only[qwl] at h;rw[roundsIn_succ];refine hb _ _ σ a w (fun e a w hl=> ?_) h hO;obtain⟨ex,σ',Im,ρ,h1,h2,h3⟩:=hl
  cases ex with
  | normal=>
   cases e<;>first|exact h3.elim|skip
   exact qnu hQ hb hh n _ _ _ h1 (hh _ _ _ ⟨Im,ρ,h2⟩)
  | exit i=>
   cases e<;>first|exact h3.elim|skip
   exact hQ _ _ _ ⟨_,σ',Im,ρ,h1,h2,h3⟩
  | ret=>
   cases e<;>first|exact h3.elim|skip
   exact hQ _ _ _ ⟨_,σ',Im,ρ,h1,h2,h3⟩
  | pan c=>
   cases e<;>first|exact h3.elim|skip
   exact hQ _ _ _ ⟨_,σ',Im,ρ,h1,h2,h3⟩
theorem qt5{rid:Nat}{k:Ex->St->Option Out}{r:Out}{Q:Exit->Act->World->Prop}(hQ: ∀e a w,Lands E w0 bl I0 k r e a w->Q e a w): ∀e a w,Lands E w0 bl I0 (kt E rid k) r e a w->Q e a w:=fun e a w ⟨ex,σ,Im,ρ,h1,h2,h3⟩=>by
 cases ex with
 | normal=>
  obtain⟨Im',ρ',h2'⟩:=On.tx (l:=E.xl (rid+1000)) ⟨Im,ρ,h2⟩;refine hQ _ _ _ ⟨.normal,_,Im',ρ',h1,h2', ?_⟩;cases e<;>exact h3
 | _=>exact hQ _ _ _ ⟨_,σ,Im,ρ,h1,h2,h3⟩
theorem qnp(hE: ∀g,Sound P E.glob g (ctr E g))(hyl:E.yl=fun _=>none)(N:Nat){r:Out}{l:Nat}: ∀(c:Code),qkg c=true->qbe P E N c->∀(k:Ex->St->Option Out) (Q:Exit->Act->World->Prop) (σ:St) (a:Act) (w:World),(∀e a w,Lands E w0 bl I0 k r e a w->Q e a w)->
  qcl P E N c σ k=some r->On E w0 bl I0 σ a w->c.wpIn (FW l) 0 P Q a w:=by
 intro c
 induction c with
 | skip=>
  intro hp hlo k Q σ a w hQ h ⟨Im,ρ,hI⟩;exact wpIn_skip (hQ _ _ _ ⟨.normal,σ,Im,ρ,h,hI,trivial⟩)
 | region id ops draw=>
  intro hp hlo k Q σ a w hQ h hO;simp only[qkg,zab,zao] at hp;obtain⟨hp1,hp2⟩:=hp;subst hp1;simp only[qcl,cond_false,hyl] at h;refine Go.wpIn_mono (Q:=Lands E w0 bl I0 k r) (wpIn_region_list (qnk qoh _ _ _ (fun o ho c hc=> ?_) (qc4 hE (fun _ _ _ h=>h) _ _ _ _ h (On.prep _ hO)))) hQ;have:=zaj.1 hp2 o ho;rw[hc] at this;cases this
 | seq x y ihx ihy=>
  intro hp hlo k Q σ a w hQ h hO;simp only[qkg,zab] at hp;simp only[qcl] at h;refine wpIn_seq (ihx hp.1 hlo.1 _ _ σ a w (fun e a w hl=> ?_) h hO);obtain⟨ex,σ',Im,ρ,h1,h2,h3⟩:=hl
  cases ex with
  | normal=>
   cases e<;>first|exact h3.elim|skip
   simp only at h1;split at h1
   ·rename_i L hL;exact ihy hp.2 hlo.2.1 _ Q _ a w (qt5 hQ) (hlo.2.2 L hL _ _ _ h1) (On.head (σ:=σ') ⟨Im,ρ,h2⟩ _)
   ·exact ihy hp.2 hlo.2.1 k Q σ' a w hQ h1 ⟨Im,ρ,h2⟩
  | exit i=>
   cases e<;>first|exact h3.elim|skip
   exact hQ _ _ _ ⟨_,σ',Im,ρ,h1,h2,h3⟩
  | ret=>
   cases e<;>first|exact h3.elim|skip
   exact hQ _ _ _ ⟨_,σ',Im,ρ,h1,h2,h3⟩
  | pan c=>
   cases e<;>first|exact h3.elim|skip
   exact hQ _ _ _ ⟨_,σ',Im,ρ,h1,h2,h3⟩
 | cond x c d ihc ihd=>
  intro hp hlo k Q σ a w hQ h ⟨Im,ρ,hI⟩;simp only[qkg,zab] at hp;simp only[qcl] at h;split at h
  ·rename_i t;obtain⟨b,s',h1,h2,h3⟩:=qfx h hI;refine wpIn_cond (t:=b) h3 ?_
   cases b with
   | true=>exact ihc hp.1 hlo.1 k Q _ a w hQ h1 ⟨Im,ρ,h2⟩
   | false=>
    simp only at h1;split at h1
    ·rename_i L hL;exact ihd hp.2 hlo.2.1 _ Q _ a w (qt5 hQ) (hlo.2.2 L hL _ _ _ h1) (On.head (σ:=⟨s',σ.heap⟩) ⟨Im,ρ,h2⟩ _)
    ·exact ihd hp.2 hlo.2.1 k Q _ a w hQ h1 ⟨Im,ρ,h2⟩
  ·exact wpIn_cond (t:=true) rfl (ihc hp.1 hlo.1 k Q _ a w hQ h ⟨Im,ρ,hI⟩)
  ·exact wpIn_cond (t:=false) rfl (ihd hp.2 hlo.2.1 k Q _ a w hQ h ⟨Im,ρ,hI⟩)
  ·cases h
 | block id c ih=>
  intro hp hlo k Q σ a w hQ h hO;simp only[qcl] at h;refine wpIn_block (ih hp hlo _ _ σ a w (fun e a w hl=> ?_) h hO);obtain⟨ex,σ',Im,ρ,h1,h2,h3⟩:=hl
  cases ex with
  | normal=>
   cases e<;>first|exact h3.elim|skip
   exact hQ _ _ _ ⟨_,σ',Im,ρ,h1,h2,h3⟩
  | exit i=>
   cases e<;>first|exact h3.elim|skip
   rename_i i';have h3:i=i':=h3;subst h3;show if i=id then Q .normal a w else Q (.exit i) a w
   cases hb:Nat.beq i id with
   | true=>
    simp only[hb,cond_true] at h1;rw[if_pos (qag.1 hb)];exact hQ _ _ _ ⟨.normal,σ',Im,ρ,h1,h2,trivial⟩
   | false=>
    simp only[hb,cond_false] at h1;rw[if_neg (qa1 hb)];exact hQ _ _ _ ⟨.exit i,σ',Im,ρ,h1,h2,rfl⟩
  | ret=>
   cases e<;>first|exact h3.elim|skip
   exact hQ _ _ _ ⟨_,σ',Im,ρ,h1,h2,h3⟩
  | pan c=>
   cases e<;>first|exact h3.elim|skip
   exact hQ _ _ _ ⟨_,σ',Im,ρ,h1,h2,h3⟩
 | loop c ih=>
  intro hp hlo k Q σ a w hQ h hO;simp only[qcl] at h;have key: ∀n σ',qwl n (qcl P E N c) (head E (qae c)) σ' k=some r->On E w0 bl I0 σ' a w->(Code.loop c).wpIn (FW l) 0 P Q a w:=fun n σ' h hO=>
   wpIn_loop_rounds n (qnu hQ (fun k' Q' σ a w hq hb hO=>ih hp hlo.1 k' Q' σ a w hq hb hO) (fun σ a w h=>h.head _) n _ a w h hO)
  split at h
  ·rename_i L hL;obtain⟨n,hn⟩:=hlo.2 L hL _ _ _ h;exact key n _ hn (hO.head _)
  ·exact key N _ h (hO.head _)
 | exit id=>
  intro hp hlo k Q σ a w hQ h hO;obtain⟨Im,ρ,hI⟩:=On.tx (l:=E.xl (id+1)) hO;exact wpIn_exit (hQ _ _ _ ⟨.exit id,_,Im,ρ,h,hI,rfl⟩)
 | ret=>
  intro hp hlo k Q σ a w hQ h hO;obtain⟨Im,ρ,hI⟩:=On.tx (l:=E.xl 0) hO;exact wpIn_ret (hQ _ _ _ ⟨.ret,_,Im,ρ,h,hI,trivial⟩)
 | _=>intro hp hlo k Q σ a w hQ h _;simp[qkg] at hp
end
end Go.Proofs.YtoiikagnjcjccaaGreatDoorA
