/-
 Sorting, plainly: a stable order by insertion, merging, and what the library's steps come to. Conditions: each theorem's own.
-/
import Derived.Test.YtoiikagnjcjccaaGreatDoorK3
import Derived.Lib.ItoaMem
import Derived.Lib.ParseIntB
import Derived.Lib.Split
import Derived.Lib.CountLaws
import Derived.Lib.IndexBytes
import Derived.Lib.Join
import Derived.Lib.LaidTab
import Derived.Test.YtoiikagnjcjccaaGreatDoorProg
set_option linter.unusedVariables false
set_option linter.unusedSimpArgs false
set_option maxRecDepth 100000
namespace Go.Proofs.YtoiikagnjcjccaaGreatDoorA
noncomputable section
abbrev zR(l:List V)(o:List (Option Obj)):Option Out:=some (.ret l o)
abbrev zvi(n:Int):V:=.cl (.int .i64 n)
abbrev zvl(l:List Int):V:=.cl (.sli .u8 l)
abbrev zvg(l:List CV):V:=.cl (.slg 3 l)
abbrev zvb(b:Bool):V:=.cl (.bool b)
abbrev zB(b:Bool):Option Out:=some (.ret [.cl (.bool b)] [])
abbrev zI(n:Int):Option Out:=some (.ret [.cl (.int .i64 n)] [])
abbrev mg{α:Type}(lt:α->α->Bool)(xs ys:List α):List α:=xs.merge ys fun a b=> !(lt b a)
def ins{α:Type}(lt:α->α->Bool)(x:α):List α->List α
 | []=>[x]
 | z::r=>if lt z x=true then z::ins lt x r else x::z::r
def isort{α:Type}(lt:α->α->Bool):List α->List α
 | []=>[]
 | x::r=>ins lt x (isort lt r)
def Srt{α:Type}(lt:α->α->Bool)(l:List α):Prop:=l.Pairwise fun a b=>lt b a=false
structure Pre2 {α:Type} (lt:α->α->Bool):Prop where
 tr: ∀a b c,lt a b=true->lt b c=true->lt a c=true
 ge: ∀a b c,lt a b=false->lt b c=false->lt a c=false
section
variable {α:Type} {lt:α->α->Bool}
theorem qqz(xs:List α):mg lt xs []=xs:=by cases xs<;>simp[mg]
theorem qvu(ys:List α):mg lt [] ys=ys:=by simp[mg]
theorem qgk(x y:α)(xs ys:List α):mg lt (x::xs) (y::ys)=if lt y x=true then y::mg lt (x::xs) ys else x::mg lt xs (y::ys):=by unfold mg;rw[List.cons_merge_cons];cases lt y x<;>rfl
theorem qfv: ∀ {x1 y1:List α} {x2 y2:List α},(∀x∈x2, ∀y∈y1,lt y x=true)->(∀x∈x1, ∀y∈y2,lt y x=false)->mg lt (x1++x2) (y1++y2)=mg lt x1 y1++mg lt x2 y2
 | [],[],x2,y2,_,_=>by simp
 | [],y::y1,[],y2,_,_=>by simp
 | [],y::y1,x::x2,y2,h1,h2=>by have ih:=qfv (x1:=[]) (y1:=y1) (x2:=x::x2) (y2:=y2) (fun u hu v hv=>h1 u hu v (by simp[hv])) (by simp);rw[za0] at ih ⊢;rw[qvu] at ih ⊢;rw[za8,qgk,if_pos (h1 x (by simp) y (by simp)),ih];rfl
 | x::x1,[],x2,[],_,_=>by simp[qqz]
 | x::x1,[],x2,y::y2,h1,h2=>by have ih:=qfv (x1:=x1) (y1:=[]) (x2:=x2) (y2:=y::y2) (by simp) (fun u hu v hv=>h2 u (by simp[hu]) v hv);rw[za0,qqz] at ih ⊢;rw[za8,qgk,if_neg (by rw[h2 x (by simp) y (by simp)];simp),ih];rfl
 | x::x1,y::y1,x2,y2,h1,h2=>by
  rw[za8,za8,qgk,qgk];by_cases h:lt y x=true
  ·rw[if_pos h,if_pos h];have ih:=qfv (x1:=x::x1) (y1:=y1) (x2:=x2) (y2:=y2) (fun u hu v hv=>h1 u hu v (by simp[hv])) h2;rw[za8] at ih;rw[ih];rfl
  ·rw[if_neg h,if_neg h];have ih:=qfv (x1:=x1) (y1:=y::y1) (x2:=x2) (y2:=y2) h1 (fun u hu v hv=>h2 u (by simp[hu]) v hv);rw[za8] at ih;rw[ih];rfl
 termination_by x1 y1=>x1.length+y1.length
theorem xbmi{xs ys:List α}(h: ∀x∈xs, ∀y∈ys,lt y x=true):mg lt xs ys=ys++xs:=by have:=qfv (lt:=lt) (x1:=[]) (y1:=ys) (x2:=xs) (y2:=[]) h (by simp);rw[za0,za9,qvu,qqz] at this;exact this
theorem q3z{xs ys:List α}(h: ∀x∈xs, ∀y∈ys,lt y x=false):mg lt xs ys=xs++ys:=by have:=qfv (lt:=lt) (x1:=xs) (y1:=[]) (x2:=[]) (y2:=ys) (by simp) h;rw[za0,za9,qqz,qvu] at this;exact this
theorem xbfi(hp:Pre2 lt)(x:α): ∀(a b:List α),ins lt x (mg lt a b)=mg lt (ins lt x a) b
 | [],[]=>by simp[ins,qqz]
 | [],w::s=>by have ih:=xbfi hp x [] s;rw[qvu] at ih ⊢;show(if lt w x=true then w::ins lt x s else x::w::s)=mg lt [x] (w::s);rw[qgk,qvu,ih];rfl
 | z::r,[]=>by rw[qqz,qqz]
 | z::r,w::s=>by
  have ih1:=xbfi hp x (z::r) s;have ih2:=xbfi hp x r (w::s);have e:ins lt x (z::r)=if lt z x=true then z::ins lt x r else x::z::r:=rfl
  rw[qgk];by_cases hw:lt w z=true
  ·rw[if_pos hw];show(if lt w x=true then w::ins lt x (mg lt (z::r) s) else x::w::mg lt (z::r) s)=_;rw[ih1,e];by_cases hz:lt z x=true
   ·rw[if_pos hz,if_pos (hp.tr _ _ _ hw hz),qgk,if_pos hw]
   ·rw[if_neg hz,qgk];by_cases hx:lt w x=true
    ·rw[if_pos hx,if_pos hx]
    ·rw[if_neg hx,if_neg hx,qgk,if_pos hw]
  ·rw[if_neg hw];show(if lt z x=true then z::ins lt x (mg lt r (w::s)) else x::z::mg lt r (w::s))=_;rw[ih2,e];by_cases hz:lt z x=true
   ·rw[if_pos hz,if_pos hz,qgk,if_neg hw]
   ·have hx: ¬lt w x=true:=by have:=hp.ge w z x (zau.2 hw) (zau.2 hz);rw[this];simp
    rw[if_neg hz,if_neg hz,qgk,if_neg hx,qgk,if_neg hw]
 termination_by a b=>a.length+b.length
theorem qvc(hp:Pre2 lt): ∀(a b:List α),isort lt (a++b)=mg lt (isort lt a) (isort lt b)
 | [],b=>by rw[za0];exact(qvu _).symm
 | x::r,b=>by show ins lt x (isort lt (r++b))=mg lt (ins lt x (isort lt r)) (isort lt b);rw[qvc hp r b,xbfi hp]
theorem xbah{x y:α}: ∀ {l:List α},y∈ins lt x l↔y=x\/y∈l
 | []=>by simp[ins]
 | z::r=>by
  unfold ins;split
  ·rw[zas,xbah,zas];constructor
   ·rintro(h|h|h)
    ·exact .inr (.inl h)
    ·exact .inl h
    ·exact .inr (.inr h)
   ·rintro(h|h|h)
    ·exact .inr (.inl h)
    ·exact .inl h
    ·exact .inr (.inr h)
  ·simp
theorem xbi2{x:α}: ∀ {l:List α},(ins lt x l).length=l.length+1
 | []=>rfl
 | z::r=>by
  unfold ins;split
  ·rw[zaf,xbi2,zaf]
  ·rfl
theorem qdd: ∀ {l:List α},(isort lt l).length=l.length
 | []=>rfl
 | x::r=>by show(ins lt x (isort lt r)).length=_;rw[xbi2,qdd];rfl
theorem qg3{y:α}: ∀ {l:List α},y∈isort lt l↔y∈l
 | []=>Iff.rfl
 | x::r=>by show y∈ins lt x (isort lt r)↔_;rw[xbah,qg3,zas]
theorem xbi5(hp:Pre2 lt)(irr: ∀a b,lt a b=true->lt b a=false){x:α}: ∀ {l:List α},Srt lt l->Srt lt (ins lt x l)
 | [],_=>by simp[ins,Srt]
 | z::r,h=>by
  obtain⟨h1,h2⟩:=List.pairwise_cons.1 h;unfold ins;split
  ·rename_i hz;refine List.pairwise_cons.2 ⟨fun y hy=> ?_,xbi5 hp irr h2⟩;rcases xbah.1 hy with e|e
   ·rw[e];exact irr _ _ hz
   ·exact h1 y e
  ·rename_i hz;have hz:=zau.2 hz;refine List.pairwise_cons.2 ⟨fun y hy=> ?_,h⟩;rcases zas.1 hy with e|e
   ·rw[e];exact hz
   ·exact hp.ge _ _ _ (h1 y e) hz
theorem qfl(hp:Pre2 lt)(irr: ∀a b,lt a b=true->lt b a=false): ∀(l:List α),Srt lt (isort lt l)
 | []=>List.Pairwise.nil
 | x::r=>xbi5 hp irr (qfl hp irr r)
theorem xblb(hp:Pre2 lt)(mixed: ∀a b c,lt a b=false->lt c b=true->lt c a=true){xs ys:List α}(hx:Srt lt xs)(hy:Srt lt ys)(h: ∀x y,xs.head? =some x->ys.getLast? =some y->lt y x=true): ∀x∈xs, ∀y∈ys,lt y x=true:=fun x hxm y hym=>by
 obtain⟨x0,xr,rfl⟩: ∃x0 xr,xs=x0::xr:=by cases xs with|nil=>simp at hxm|cons a r=>exact⟨a,r,rfl⟩
 obtain⟨yr,y0,rfl⟩: ∃yr y0,ys=yr++[y0]:=⟨ys.dropLast,ys.getLast (by intro e;subst e;simp at hym),(List.dropLast_concat_getLast _).symm⟩;have h0:=h x0 y0 rfl (by simp);have hyy:y=y0\/lt y0 y=false:=by
  rcases zak.1 hym with e|e
  ·exact .inr ((List.pairwise_append.1 hy).2.2 y e y0 (by simp))
  ·exact .inl (by simpa using e)
 have hxx:x=x0\/lt x x0=false:=by
  rcases zas.1 hxm with e|e
  ·exact .inl e
  ·exact .inr ((List.pairwise_cons.1 hx).1 x e)
 have h1:lt y0 x=true:=by
  rcases hxx with e|e
  ·rw[e];exact h0
  ·exact mixed _ _ _ e h0
 rcases hyy with e|e
 ·rw[e];exact h1
 ·cases hyx:lt y x with
  | true=>rfl
  | false=>have:=hp.ge _ _ _ e hyx;rw[h1] at this;cases this
theorem xbla(hp:Pre2 lt){xs ys:List α}(hx:Srt lt xs)(hy:Srt lt ys)(h: ∀x y,xs.getLast? =some x->ys.head? =some y->lt y x=false): ∀x∈xs, ∀y∈ys,lt y x=false:=fun x hxm y hym=>by
 obtain⟨y0,yr,rfl⟩: ∃x0 xr,ys=x0::xr:=by cases ys with|nil=>simp at hym|cons a r=>exact⟨a,r,rfl⟩
 obtain⟨xr,x0,rfl⟩: ∃yr y0,xs=yr++[y0]:=⟨xs.dropLast,xs.getLast (by intro e;subst e;simp at hxm),(List.dropLast_concat_getLast _).symm⟩;have h0:=h x0 y0 (by simp) rfl;have h1:lt y x0=false:=by
  rcases zas.1 hym with e|e
  ·rw[e];exact h0
  ·exact hp.ge _ _ _ ((List.pairwise_cons.1 hy).1 y e) h0
 rcases zak.1 hxm with e|e
 ·exact hp.ge _ _ _ h1 ((List.pairwise_append.1 hx).2.2 x e x0 (by simp))
 ·have:x=x0:=by simpa using e
  rw[this];exact h1
def bsr(t:Nat->Bool):Nat->Nat->Nat->Nat
 | 0,lo,_=>lo
 | f+1,lo,hi=>if lo<hi then(if t ((lo+hi)/ 2)=true then bsr t f ((lo+hi)/ 2+1) hi else bsr t f lo ((lo+hi)/ 2)) else lo
theorem qpy{t:Nat->Bool}: ∀(f lo hi lo0 hi0:Nat),lo<=hi->hi - lo<f->lo0<=lo->hi<=hi0->(lo=lo0\/t (lo - 1)=true/\lo0<lo)->(hi=hi0\/t hi=false/\hi<hi0)->
  lo0<=bsr t f lo hi/\bsr t f lo hi<=hi0/\(bsr t f lo hi=lo0\/t (bsr t f lo hi - 1)=true)/\(bsr t f lo hi=hi0\/t (bsr t f lo hi)=false)
 | 0,lo,hi,lo0,hi0,_,hf,_,_,_,_=>by omega
 | f+1,lo,hi,lo0,hi0,h,hf,hl,hh,h1,h2=>by
  unfold bsr;by_cases hlt:lo<hi
  ·rw[if_pos hlt];by_cases ht:t ((lo+hi)/ 2)=true
   ·rw[if_pos ht];exact qpy f _ hi lo0 hi0 (by omega) (by omega) (by omega) hh (.inr ⟨by rw[show(lo+hi)/ 2+1 - 1=(lo+hi)/ 2 by omega];exact ht,by omega⟩) h2
   ·rw[if_neg ht];exact qpy f lo _ lo0 hi0 (by omega) (by omega) hl (by omega) h1 (.inr ⟨zau.2 ht,by omega⟩)
  ·rw[if_neg hlt];obtain rfl:lo=hi:=by omega
   exact⟨hl,hh,h1.imp id (·.1),h2.imp id (·.1)⟩
end
section
variable {α:Type} {lt:α->α->Bool}
structure Ord2 (lt:α->α->Bool):Prop extends Pre2 lt where
 irr: ∀a b,lt a b=true->lt b a=false
 mix: ∀a b c,lt a b=false->lt c b=true->lt c a=true
theorem qgr{p q:List α}(h:Srt lt (p++q)):Srt lt p/\Srt lt q:=⟨(List.pairwise_append.1 h).1,(List.pairwise_append.1 h).2.1⟩
theorem xbfy{p:List α}{y z:α}(h:lt y z=true):mg lt (p++[z]) [y]=mg lt p [y]++[z]:=by have:=qfv (lt:=lt) (x1:=p) (y1:=[y]) (x2:=[z]) (y2:=[]) (fun x hx v hv=>by simp at hx hv;rw[hx,hv];exact h) (by simp);rw[za9,qqz] at this;exact this
theorem xbfx(hp:Ord2 lt){p:List α}{y z:α}(hs:Srt lt (p++[z]))(h:lt y z=false):mg lt (p++[z]) [y]=p++[z,y]:=by
 rw[q3z]
 ·simp
 ·intro x hx v hv;have hv:v=y:=by simpa using hv
  subst hv;rcases zak.1 hx with e|e
  ·exact hp.ge _ _ _ h ((List.pairwise_append.1 hs).2.2 x e z (by simp))
  ·have:x=z:=by simpa using e
   rw[this];exact h
theorem xbfl(y:α):isort lt [y]=[y]:=rfl
theorem q3t(hp:Ord2 lt)(l:List α)(y:α):isort lt (l++[y])=mg lt (isort lt l) [y]:=by rw[qvc hp.toPre2,xbfl]
def blk(lt:α->α->Bool)(s:Nat):Nat->List α->List α
 | 0,l=>isort lt l
 | f+1,l=>if l.length<=s then isort lt l else isort lt (l.take s)++blk lt s f (l.drop s)
theorem qxd{s f:Nat}{l:List α}(h:l.length<=s):blk lt s f l=isort lt l:=by
 cases f with
 | zero=>rfl
 | succ f=>unfold blk;rw[if_pos h]
theorem q8y{s:Nat}(hs:0<s): ∀ {f g:Nat} {l:List α},l.length<=f->l.length<=g->blk lt s f l=blk lt s g l
 | 0,g,l,h,_=>by rw[qxd (by omega),qxd (by omega)]
 | f,0,l,_,h=>by rw[qxd (by omega),qxd (by omega)]
 | f+1,g+1,l,hf,hg=>by
  unfold blk;split
  ·rfl
  ·rw[q8y hs (f:=f) (g:=g) (by rw[zat];omega) (by rw[zat];omega)]
abbrev bk(lt:α->α->Bool)(s:Nat)(l:List α):List α:=blk lt s l.length l
theorem xbo9{s:Nat}(hs:0<s){l:List α}(h:s<l.length):bk lt s l=isort lt (l.take s)++bk lt s (l.drop s):=by unfold bk;obtain⟨n,hn⟩: ∃n,l.length=n+1:=⟨l.length - 1,by omega⟩;rw[hn];show(if l.length<=s then _ else _)=_;rw[if_neg (by omega),q8y hs (f:=n) (g:=(l.drop s).length) (by rw[zat];omega) (zar _)]
theorem q0p{s:Nat}{l:List α}(h:l.length<=s):bk lt s l=isort lt l:=qxd h
theorem xbjn(hp:Ord2 lt)(u v:List α):mg lt (isort lt u) (isort lt v)=isort lt (u++v):=(qvc hp.toPre2 u v).symm
theorem xbhc(hp:Ord2 lt){x1 x2 y1 y2:List α}(hx:Srt lt (x1++x2))(hy:Srt lt (y1++y2))(h1: ∀x y,x2.head? =some x->y1.getLast? =some y->lt y x=true)(h2: ∀x y,x1.getLast? =some x->y2.head? =some y->lt y x=false):
  mg lt (x1++x2) (y1++y2)=mg lt x1 y1++mg lt x2 y2:=
 qfv (xblb hp.toPre2 hp.mix (qgr hx).2 (qgr hy).1 h1) (xbla hp.toPre2 (qgr hx).1 (qgr hy).2 h2)
theorem xbmz(hp:Ord2 lt){x:α}{y1 y2:List α}(hy:Srt lt (y1++y2))(h1: ∀y,y1.getLast? =some y->lt y x=true)(h2: ∀y,y2.head? =some y->lt y x=false):mg lt [x] (y1++y2)=y1++x::y2:=by
 have:=qfv (lt:=lt) (x1:=[]) (x2:=[x]) (y1:=y1) (y2:=y2) (xblb hp.toPre2 hp.mix (List.pairwise_singleton ..) (qgr hy).1 fun a b ha hb=>by simp at ha;subst ha;exact h1 b hb) (by simp);rw[za0,qvu] at this;rw[this,q3z]
 ·rfl
 ·exact xbla hp.toPre2 (List.pairwise_singleton ..) (qgr hy).2 fun a b ha hb=>by simp at ha;subst ha;exact h2 b hb
theorem xbga(hp:Ord2 lt){y:α}{x1 x2:List α}(hx:Srt lt (x1++x2))(h1: ∀x,x2.head? =some x->lt y x=true)(h2: ∀x,x1.getLast? =some x->lt y x=false):mg lt (x1++x2) [y]=x1++y::x2:=by
 have:=qfv (lt:=lt) (x1:=x1) (x2:=x2) (y1:=[]) (y2:=[y]) (by simp) (xbla hp.toPre2 (qgr hx).1 (List.pairwise_singleton ..) fun a b ha hb=>by simp at hb;subst hb;exact h2 a ha);rw[za0,qqz] at this;rw[this,xbmi]
 ·rfl
 ·exact xblb hp.toPre2 hp.mix (qgr hx).2 (List.pairwise_singleton ..) fun a b ha hb=>by simp at hb;subst hb;exact h1 a ha
def seg(l:List α)(a b:Nat):List α:=(l.take b).drop a
theorem qbn(l:List α){a b:Nat}(h:b<=l.length):(seg l a b).length=b - a:=by unfold seg;rw[zat,zbp];omega
theorem qes(l:List α){a b c:Nat}(h1:a<=b)(h2:b<=c):seg l a c=seg l a b++seg l b c:=by
 unfold seg;have e:l.take c=l.take b++(l.take c).drop b:=by have:=(List.take_append_drop b (l.take c)).symm;rwa [List.take_take,Nat.min_eq_left h2] at this
 by_cases hb:b<=l.length
 ·have:(l.take c).drop a=(l.take b++(l.take c).drop b).drop a:=by rw[<- e]
  rw[this,List.drop_append_of_le_length (by rw[zbp];omega)]
 ·rw[zbs (by omega),zbs (by omega),List.drop_of_length_le (i:=b) (by omega),za9]
theorem qdn(l:List α){a b i:Nat}(h:i<b - a):(seg l a b)[i]? =l[a+i]? :=by unfold seg;rw[zbv,zbm (by omega)]
theorem qwk(l:List α){a b:Nat}(h:a<b):(seg l a b).head? =l[a]? :=by rw[List.head?_eq_getElem?,qdn l (by omega),Nat.add_zero]
theorem qwl(l:List α){a b:Nat}(h:a<b)(hb:b<=l.length):(seg l a b).getLast? =l[b - 1]? :=by rw[List.getLast?_eq_getElem?,qbn l hb,qdn l (by omega)];congr 1;omega
theorem qtc(l:List α)(a:Nat):seg l a a=[]:=by unfold seg;rw[List.drop_eq_nil_iff,zbp];omega
def pu(l:List α)(a b:Nat)(s:List α):List α:=l.take a++(s++l.drop b)
theorem qya(l:List α){a b:Nat}{s:List α}(h:a<=b)(hb:b<=l.length)(hs:s.length=b - a):(pu l a b s).length=l.length:=by unfold pu;rw[zah,zah,zbp,zat];omega
theorem qyb(l:List α){a b:Nat}(h:a<=b)(hb:b<=l.length):pu l a b (seg l a b)=l:=by
 unfold pu;have:=qes l h hb;have e:l.drop a=seg l a b++l.drop b:=by
  have h1:seg l a l.length=l.drop a:=by unfold seg;rw[zb4]
  have h2:seg l b l.length=l.drop b:=by unfold seg;rw[zb4]
  rw[<- h1, <- h2];exact this
 rw[<- e,List.take_append_drop]
theorem xbcp(l:List α){a b:Nat}{s u v w:List α}(ha:a<=l.length)(hs:s=u++(v++w)):seg (pu l a b s) (a+u.length) (a+u.length+v.length)=v:=by
 have e:pu l a b s=(l.take a++u)++(v++(w++l.drop b)):=by unfold pu;rw[hs];simp
 have hl:(l.take a++u).length=a+u.length:=by rw[zah,zbp];omega
 unfold seg;rw[e,show a+u.length+v.length=(l.take a++u).length+v.length by omega,List.take_append,List.drop_append];rw[zbs (by omega),show(l.take a++u).length+v.length - (l.take a++u).length=v.length by omega,List.take_left' rfl, <- hl,zdj,Nat.sub_self];simp
theorem xbxq(l:List α){a b:Nat}{s u v w v':List α}(ha:a<=l.length)(hs:s=u++(v++w)):pu (pu l a b s) (a+u.length) (a+u.length+v.length) v'=pu l a b (u++(v'++w)):=by
 have e:pu l a b s=(l.take a++u)++(v++(w++l.drop b)):=by unfold pu;rw[hs];simp
 have hl:(l.take a++u).length=a+u.length:=by rw[zah,zbp];omega
 have e1:(pu l a b s).take (a+u.length)=l.take a++u:=by rw[e,List.take_left' hl]
 have e2:(pu l a b s).drop (a+u.length+v.length)=w++l.drop b:=by rw[e, <- za6,List.drop_left' (by rw[zah,hl])]
 show(pu l a b s).take (a+u.length)++(v'++(pu l a b s).drop (a+u.length+v.length))=_;rw[e1,e2];unfold pu;simp
end
section
variable {α:Type} {lt:α->α->Bool}
def rot(d:List α)(a m b:Nat):List α:=pu d a b (seg d m b++seg d a m)
theorem xbce(d:List α){a m b:Nat}(h1:a<=m)(h2:m<=b)(hb:b<=d.length):(rot d a m b).length=d.length:=
 qya d (by omega) hb (by rw[zah,qbn d hb,qbn d (by omega)];omega)
theorem xbxu{d:List α}{a m b:Nat}(h:a=m\/m=b)(h1:a<=m)(h2:m<=b)(hb:b<=d.length):rot d a m b=d:=by
 unfold rot;rcases h with rfl|rfl
 ·rw[qtc,za9,qyb d h2 hb]
 ·rw[qtc,za0,qyb d h1 hb]
theorem xbfz(u v:List α):(mg lt u v).length=u.length+v.length:=List.length_merge ..
theorem xbmj{u v:List α}(h:u=[]\/v=[]):mg lt u v=u++v:=by
 rcases h with rfl|rfl
 ·rw[qvu];rfl
 ·rw[qqz,za9]
theorem four(d:List α){a s m e b:Nat}(h1:a<=s)(h2:s<=m)(h3:m<=e)(h4:e<=b)(hb:b<=d.length):d=pu d a b (seg d a s++(seg d s m++seg d m e++seg d e b)):=by have e1:=qes d (show a<=s by omega) (show s<=b by omega);have e2:=qes d (show s<=m by omega) (show m<=b by omega);have e3:=qes d (show m<=e by omega) (show e<=b by omega);have:=qyb d (show a<=b by omega) hb;rw[e1,e2,e3, <- za6 (seg d s m)] at this;exact this.symm
theorem xbol(hp:Ord2 lt)(d:List α){a s m e b mid:Nat}(h1:a<=s)(h2:s<=m)(h3:m<=e)(h4:e<=b)(hb:b<=d.length)(hmid:mid+m=s+e)(hs1:Srt lt (seg d a m))(hs2:Srt lt (seg d m b))(c1:s<m->m<e->∀x y,d[s]? =some x->d[e - 1]? =some y->lt y x=true)(c2:a<s->e<b->∀x y,d[s - 1]? =some x->d[e]? =some y->lt y x=false):
  ∀d1 d2,d1=rot d s m e->d2=pu d1 a mid (mg lt (seg d1 a s) (seg d1 s mid))->pu d2 mid b (mg lt (seg d2 mid e) (seg d2 e b))=pu d a b (mg lt (seg d a m) (seg d m b))/\
   seg d1 a s=seg d a s/\seg d1 s mid=seg d m e/\seg d2 mid e=seg d s m/\seg d2 e b=seg d e b:=by
 intro d1 d2 hd1 hd2;have hx1:=qbn d (show s<=d.length by omega) (a:=a);have hx2:=qbn d (show m<=d.length by omega) (a:=s);have hy1:=qbn d (show e<=d.length by omega) (a:=m);have hy2:=qbn d hb (a:=e);have h0:=four d h1 h2 h3 h4 hb;have ex:=qes d h1 h2;have ey:=qes d h3 h4;rw[ex] at hs1;rw[ey] at hs2;have key:mg lt (seg d a m) (seg d m b)=mg lt (seg d a s) (seg d m e)++mg lt (seg d s m) (seg d e b):=by
  rw[ex,ey];refine xbhc hp hs1 hs2 (fun x y hx hy=> ?_) fun x y hx hy=> ?_
  ·have i1:s<m:=by
    rcases zbo s m with h|h
    ·exact h
    ·have:seg d s m=[]:=zal (by omega);rw[this] at hx;cases hx
   have i2:m<e:=by
    rcases zbo m e with h|h
    ·exact h
    ·have:seg d m e=[]:=zal (by omega);rw[this] at hy;cases hy
   rw[qwk d i1] at hx;rw[qwl d i2 (by omega)] at hy;exact c1 i1 i2 x y hx hy
  ·have i1:a<s:=by
    rcases zbo a s with h|h
    ·exact h
    ·have:seg d a s=[]:=zal (by omega);rw[this] at hx;cases hx
   have i2:e<b:=by
    rcases zbo e b with h|h
    ·exact h
    ·have:seg d e b=[]:=zal (by omega);rw[this] at hy;cases hy
   rw[qwl d i1 (by omega)] at hx;rw[qwk d i2] at hy;exact c2 i1 i2 x y hx hy
 rw[key];have hm1:(mg lt (seg d a s) (seg d m e)).length=(s - a)+(e - m):=by rw[xbfz,hx1,hy1]
 have t1:d1=pu d a b (seg d a s++(seg d m e++seg d s m++seg d e b)):=by have:=xbxq d (a:=a) (b:=b) (s:=seg d a s++(seg d s m++seg d m e++seg d e b)) (u:=seg d a s) (v:=seg d s m++seg d m e) (w:=seg d e b) (v':=seg d m e++seg d s m) (by omega) rfl;rw[<- h0,show a+(seg d a s).length=s by omega,show s+(seg d s m++seg d m e).length=e by rw[zah];omega] at this;rw[hd1];exact this
 have g1:seg d1 a s=seg d a s:=by have:=xbcp d (a:=a) (b:=b) (s:=seg d a s++(seg d m e++seg d s m++seg d e b)) (u:=[]) (v:=seg d a s) (w:=seg d m e++seg d s m++seg d e b) (by omega) rfl;rw[<- t1,show a+([]:List α).length=a from rfl,show a+(seg d a s).length=s by omega] at this;exact this
 have g2:seg d1 s mid=seg d m e:=by have:=xbcp d (a:=a) (b:=b) (s:=seg d a s++(seg d m e++seg d s m++seg d e b)) (u:=seg d a s) (v:=seg d m e) (w:=seg d s m++seg d e b) (by omega) (by simp);rw[<- t1,show a+(seg d a s).length=s by omega,show s+(seg d m e).length=mid by omega] at this;exact this
 have t2:d2=pu d a b (mg lt (seg d a s) (seg d m e)++(seg d s m++seg d e b)):=by have:=xbxq d (a:=a) (b:=b) (s:=seg d a s++(seg d m e++seg d s m++seg d e b)) (u:=[]) (v:=seg d a s++seg d m e) (w:=seg d s m++seg d e b) (v':=mg lt (seg d a s) (seg d m e)) (by omega) (by simp);rw[<- t1,show a+([]:List α).length=a from rfl,show a+(seg d a s++seg d m e).length=mid by rw[zah];omega] at this;rw[hd2,g1,g2];exact this
 have g3:seg d2 mid e=seg d s m:=by have:=xbcp d (a:=a) (b:=b) (s:=mg lt (seg d a s) (seg d m e)++(seg d s m++seg d e b)) (u:=mg lt (seg d a s) (seg d m e)) (v:=seg d s m) (w:=seg d e b) (by omega) rfl;rw[<- t2,show a+(mg lt (seg d a s) (seg d m e)).length=mid by omega,show mid+(seg d s m).length=e by omega] at this;exact this
 have g4:seg d2 e b=seg d e b:=by have:=xbcp d (a:=a) (b:=b) (s:=mg lt (seg d a s) (seg d m e)++(seg d s m++seg d e b)) (u:=mg lt (seg d a s) (seg d m e)++seg d s m) (v:=seg d e b) (w:=[]) (by omega) (by simp);rw[<- t2,show a+(mg lt (seg d a s) (seg d m e)++seg d s m).length=e by rw[zah];omega,show e+(seg d e b).length=b by omega] at this;exact this
 refine⟨?_,g1,g2,g3,g4⟩;rw[g3,g4];have:=xbxq d (a:=a) (b:=b) (s:=mg lt (seg d a s) (seg d m e)++(seg d s m++seg d e b)) (u:=mg lt (seg d a s) (seg d m e)) (v:=seg d s m++seg d e b) (w:=[]) (v':=mg lt (seg d s m) (seg d e b)) (by omega) (by simp);rw[<- t2,show a+(mg lt (seg d a s) (seg d m e)).length=mid by omega,show mid+(seg d s m++seg d e b).length=b by rw[zah];omega,za9] at this;exact this
end
section
variable {α:Type} {lt:α->α->Bool}
theorem qnz(d:List α){a b:Nat}{s:List α}(h:a<=b)(hb:b<=d.length)(hs:s.length=b - a)(i:Nat):(pu d a b s)[i]? =if a<=i/\i<b then s[i - a]? else d[i]? :=by
 have hl:(d.take a).length=a:=by rw[zbp];omega
 unfold pu;by_cases h1:i<a
 ·rw[if_neg (by omega),zax (by omega),zbm h1]
 ·rw[zav (by omega),hl];by_cases h2:i<b
  ·rw[if_pos ⟨by omega,h2⟩,zax (by omega)]
  ·rw[if_neg (by omega),zav (by omega),zbv];congr 1;omega
def swp(d:List α)(a b n:Nat):List α:=pu (pu d a (a+n) (seg d b (b+n))) b (b+n) (seg d a (a+n))
theorem qja(d:List α){a b n:Nat}(h:a+n<=b)(hb:b+n<=d.length):(swp d a b n).length=d.length:=by unfold swp;have e:=qya d (a:=a) (b:=a+n) (s:=seg d b (b+n)) (by omega) (by omega) (by rw[qbn d hb];omega);rw[qya _ (by omega) (by omega) (by rw[qbn d (by omega)];omega),e]
theorem qi9(d:List α){a b n:Nat}(h:a+n<=b)(hb:b+n<=d.length)(i:Nat):(swp d a b n)[i]? =if a<=i/\i<a+n then d[b+(i - a)]? else if b<=i/\i<b+n then d[a+(i - b)]? else d[i]? :=by
 unfold swp;have e:=qya d (a:=a) (b:=a+n) (s:=seg d b (b+n)) (by omega) (by omega) (by rw[qbn d hb];omega);rw[qnz _ (by omega) (by omega) (by rw[qbn d (by omega)];omega)];by_cases h1:b<=i/\i<b+n
 ·rw[if_pos h1,if_neg (by omega),if_pos h1,qdn d (by omega)]
 ·rw[if_neg h1,qnz _ (by omega) (by omega) (by rw[qbn d hb];omega)];by_cases h2:a<=i/\i<a+n
  ·rw[if_pos h2,if_pos h2,qdn d (by omega)]
  ·rw[if_neg h2,if_neg h2,if_neg h1]
theorem xbdm(d:List α){a b:Nat}(h:a<=b)(hb:b<=d.length):swp d a b 0=d:=by refine List.ext_getElem? fun i=> ?_;rw[qi9 d (by omega) (by omega),if_neg (by omega),if_neg (by omega)]
theorem xbdn(d:List α){a b n:Nat}(h:a+n<b)(hb:b+n<d.length){x y:α}(hx:d[a+n]? =some x)(hy:d[b+n]? =some y):((swp d a b n).set (a+n) y).set (b+n) x=swp d a b (n+1):=by
 have hl:=qja d (a:=a) (b:=b) (n:=n) (by omega) (by omega);refine List.ext_getElem? fun i=> ?_;rw[qi9 d (n:=n+1) (by omega) (by omega),List.getElem?_set,List.getElem?_set,List.length_set,hl];by_cases h1:b+n=i
 ·subst h1;rw[if_pos rfl,if_pos (by omega),if_neg (by omega),if_pos (by omega),show a+(b+n - b)=a+n by omega,hx]
 ·rw[if_neg h1];by_cases h2:a+n=i
  ·subst h2;rw[if_pos rfl,if_pos (by omega),if_pos (by omega),show b+(a+n - a)=b+n by omega,hy]
  ·rw[if_neg h2,qi9 d (by omega) (by omega)]
   (repeat' split)<;>first|(exfalso;omega)|rfl
theorem qyh(d:List α){a m b:Nat}(h1:a<=m)(h2:m<=b)(hb:b<=d.length)(i:Nat):(rot d a m b)[i]? =if a<=i/\i<a+(b - m) then d[m+(i - a)]? else if a+(b - m)<=i/\i<b then d[i - (b - m)]? else d[i]? :=by
 unfold rot;have l1:=qbn d hb (a:=m);have l2:=qbn d (show m<=d.length by omega) (a:=a);rw[qnz d (by omega) hb (by rw[zah];omega)];by_cases h3:a<=i/\i<b
 ·rw[if_pos h3];by_cases h4:i<a+(b - m)
  ·rw[if_pos ⟨h3.1,h4⟩,zax (by omega),qdn d (by omega)]
  ·rw[if_neg (by omega),if_pos (by omega),zav (by omega),qdn d (by omega)];congr 1;omega
 ·rw[if_neg h3,if_neg (by omega),if_neg (by omega)]
def rotF:Nat->List α->Nat->Nat->Nat->List α
 | 0,d,_,_,_=>d
 | f+1,d,m,i,j=>if i=j then swp d (m - i) m i else if j<i then rotF f (swp d (m - i) m j) m (i - j) j else rotF f (swp d (m - i) (m+j - i) i) m i (j - i)
theorem q4p: ∀(f:Nat) (d:List α) (m i j:Nat),0<i->0<j->i<=m->m+j<=d.length->i+j<=f->rotF f d m i j=rot d (m - i) m (m+j)
 | 0,_,_,_,_,_,_,_,_,_=>by omega
 | f+1,d,m,i,j,hi,hj,hm,hd,hf=>by
  unfold rotF;by_cases h:i=j
  ·subst h;rw[if_pos rfl];refine List.ext_getElem? fun q=> ?_;rw[qi9 d (by omega) (by omega),qyh d (by omega) (by omega) (by omega)];have key: ∀(u v:Nat),u=v->d[u]? =d[v]? :=fun u v e=>by rw[e]
   (repeat' split)<;>first|(exfalso;omega)|(apply key;omega)
  ·rw[if_neg h];by_cases h2:j<i
   ·rw[if_pos h2,q4p f _ m (i - j) j (by omega) hj (by omega) (by rw[qja d (by omega) (by omega)];exact hd) (by omega)];refine List.ext_getElem? fun q=> ?_;have hl:=qja d (a:=m - i) (b:=m) (n:=j) (by omega) (by omega);rw[qyh _ (by omega) (by omega) (by omega),qyh d (by omega) (by omega) (by omega)];simp only[qi9 d (a:=m - i) (b:=m) (n:=j) (by omega) (by omega)];have key: ∀(u v:Nat),u=v->d[u]? =d[v]? :=fun u v e=>by rw[e]
    (repeat' split)<;>first|(exfalso;omega)|(apply key;omega)
   ·rw[if_neg h2,q4p f _ m i (j - i) hi (by omega) hm (by rw[qja d (by omega) (by omega)];omega) (by omega)];refine List.ext_getElem? fun q=> ?_;have hl:=qja d (a:=m - i) (b:=m+j - i) (n:=i) (by omega) (by omega);rw[qyh _ (by omega) (by omega) (by omega),qyh d (by omega) (by omega) (by omega)];simp only[qi9 d (a:=m - i) (b:=m+j - i) (n:=i) (by omega) (by omega)];have key: ∀(u v:Nat),u=v->d[u]? =d[v]? :=fun u v e=>by rw[e]
    (repeat' split)<;>first|(exfalso;omega)|(apply key;omega)
end
section
variable {α:Type} {lt:α->α->Bool}
def symS(lt:α->α->Bool)(d:List α)(a m b:Nat):List α:=pu d a b (mg lt (seg d a m) (seg d m b))
theorem q2e(d:List α){a m b:Nat}(h1:a<=m)(h2:m<=b)(hb:b<=d.length):(symS lt d a m b).length=d.length:=
 qya d (by omega) hb (by rw[xbfz,qbn d hb,qbn d (by omega)];omega)
theorem qwr(d:List α){a m b:Nat}(h1:a<=m)(h2:m<=b)(hb:b<=d.length)(h:a=m\/m=b):symS lt d a m b=d:=by
 unfold symS;rw[xbmj, <- qes d h1 h2,qyb d (by omega) hb];rcases h with rfl|rfl
 ·exact .inl (qtc d _)
 ·exact .inr (qtc d _)
def ltA(lt:α->α->Bool)(d:List α)(i j:Nat):Bool:=match d[i]?,d[j]? with|some y,some x=>lt y x|_,_=>false
theorem qk2{d:List α}{i j:Nat}{x y:α}(hy:d[i]? =some y)(hx:d[j]? =some x):ltA lt d i j=lt y x:=by unfold ltA;rw[hy,hx]
def xbu6(lt:α->α->Bool)(d:List α)(a m b f:Nat):Nat:=
 bsr (fun c=> !(ltA lt d ((a+b)/ 2+m - 1 - c) c)) f (if(a+b)/ 2<m then(a+b)/ 2+m - b else a) (if(a+b)/ 2<m then(a+b)/ 2 else m)
theorem xbkf(hp:Ord2 lt)(d:List α){a m b f:Nat}(ham:a<m)(hmb:m<b)(hb:b<=d.length)(hf:b - a<f)(hs1:Srt lt (seg d a m))(hs2:Srt lt (seg d m b)):
  ∀s e d1 d2,s=xbu6 lt d a m b f->e=(a+b)/ 2+m - s->d1=(if s<m/\m<e then rot d s m e else d)->d2=(if a<s/\s<(a+b)/ 2 then symS lt d1 a s ((a+b)/ 2) else d1)->
   (if(a+b)/ 2<e/\e<b then symS lt d2 ((a+b)/ 2) e b else d2)=symS lt d a m b/\a<=s/\s<=m/\m<=e/\e<=b/\d1.length=d.length/\d2.length=d.length/\
   (Srt lt (seg d1 a s)/\Srt lt (seg d1 s ((a+b)/ 2)))/\Srt lt (seg d2 ((a+b)/ 2) e)/\Srt lt (seg d2 e b):=by
 intro s e d1 d2 hs he hd1 hd2;obtain⟨mid,hmid⟩: ∃mid,mid=(a+b)/ 2:=⟨_,rfl⟩;unfold xbu6 at hs;rw[<- hmid] at hs he hd2 ⊢;have hm2:a+b<=2*mid+1/\2*mid<=a+b:=by omega
 obtain⟨lo,hlo⟩: ∃lo,lo=if mid<m then mid+m - b else a:=⟨_,rfl⟩
 obtain⟨hi,hhi⟩: ∃hi,hi=if mid<m then mid else m:=⟨_,rfl⟩
 rw[<- hlo, <- hhi] at hs;have hlh:a<=lo/\lo<=hi/\hi<=m/\hi<=mid/\mid+m<=lo+b/\(lo=a\/mid+m=lo+b)/\(hi=m\/hi=mid):=by
  by_cases h:mid<m
  ·rw[if_pos h] at hlo hhi;omega
  ·rw[if_neg h] at hlo hhi;omega
 obtain⟨q1,q2,q3,q4⟩:=qpy (t:=fun c=> !(ltA lt d (mid+m - 1 - c) c)) f lo hi lo hi (by omega) (by omega) (zar _) (zar _) (.inl rfl) (.inl rfl);rw[<- hs] at q1 q2 q3 q4;have hse:a<=s/\s<=m/\m<=e/\e<=b/\mid+m=s+e:=by omega
 obtain⟨b1,b2,b3,b4,b5⟩:=hse;have c1:s<m->m<e->∀x y,d[s]? =some x->d[e - 1]? =some y->lt y x=true:=fun i1 i2 x y hx hy=>by
  rcases q4 with q|q
  ·omega
  ·have q:(!(ltA lt d (mid+m - 1 - s) s))=false:=q;rw[show mid+m - 1 - s=e - 1 by omega,qk2 hy hx] at q;simpa using q
 have c2:a<s->e<b->∀x y,d[s - 1]? =some x->d[e]? =some y->lt y x=false:=fun i1 i2 x y hx hy=>by
  rcases q3 with q|q
  ·omega
  ·have q:(!(ltA lt d (mid+m - 1 - (s - 1)) (s - 1)))=true:=q;rw[show mid+m - 1 - (s - 1)=e by omega,qk2 hy hx] at q;simpa using q
 have e1:d1=rot d s m e:=by
  rw[hd1];split
  ·rfl
  ·exact(xbxu (by omega) b2 b3 (by omega)).symm
 have l1:d1.length=d.length:=by rw[e1];exact xbce d b2 b3 (by omega)
 have e2:d2=symS lt d1 a s mid:=by
  rw[hd2];split
  ·rfl
  ·exact(qwr d1 b1 (by omega) (by omega) (by omega)).symm
 have l2:d2.length=d.length:=by rw[e2,q2e d1 b1 (by omega) (by omega),l1]
 obtain⟨r1,r2,r3,r4,r5⟩:=xbol hp d b1 b2 b3 b4 hb b5 hs1 hs2 c1 c2 d1 d2 e1 e2;have ex:=qes d b1 b2;have ey:=qes d b3 b4;rw[ex] at hs1;rw[ey] at hs2;refine⟨?_,b1,b2,b3,b4,l1,l2,⟨by rw[r2];exact(qgr hs1).1,by rw[r3];exact(qgr hs2).1⟩,by rw[r4];exact(qgr hs1).2,by rw[r5];exact(qgr hs2).2⟩;have e3:(if mid<e/\e<b then symS lt d2 mid e b else d2)=symS lt d2 mid e b:=by
  split
  ·rfl
  ·exact(qwr d2 (by omega) b4 (by omega) (by omega)).symm
 rw[e3];exact r1
theorem xbdp(hp:Ord2 lt)(d:List α){a b f:Nat}(hb:b<=d.length)(hab:a+1<b)(hf:b - a<f){x:α}(hx:d[a]? =some x)(hs:Srt lt (seg d (a+1) b)):
  ∀i,i=bsr (fun h=>ltA lt d h a) f (a+1) b->a+1<=i/\i<=b/\pu d a i (seg d (a+1) i++[x])=symS lt d a (a+1) b:=by
 intro i hi;obtain⟨q1,q2,q3,q4⟩:=qpy (t:=fun h=>ltA lt d h a) f (a+1) b (a+1) b (by omega) (by omega) (zar _) (zar _) (.inl rfl) (.inl rfl);rw[<- hi] at q1 q2 q3 q4;refine⟨q1,q2, ?_⟩;have e0:seg d a (a+1)=[x]:=by
  refine List.ext_getElem? fun k=> ?_
  cases k with
  | zero=>rw[qdn d (by omega),Nat.add_zero,hx];rfl
  | succ k=>rw[zay (by rw[qbn d (by omega)];omega)];simp
 have ey:=qes d q1 q2;rw[ey] at hs;have key:mg lt [x] (seg d (a+1) i++seg d i b)=seg d (a+1) i++x::seg d i b:=by
  refine xbmz hp hs (fun y hy=> ?_) fun y hy=> ?_
  ·have hl:a+1<i:=by
    rcases zbo (a+1) i with h|h
    ·exact h
    ·have:seg d (a+1) i=[]:=zal (by rw[qbn d (by omega)];omega);rw[this] at hy;cases hy
   rw[qwl d hl (by omega)] at hy;rcases q3 with q|q
   ·omega
   ·have q:ltA lt d (i - 1) a=true:=q;rwa [qk2 hy hx] at q
  ·have hl:i<b:=by
    rcases zbo i b with h|h
    ·exact h
    ·have:seg d i b=[]:=zal (by rw[qbn d (by omega)];omega);rw[this] at hy;cases hy
   rw[qwk d hl] at hy;rcases q4 with q|q
   ·omega
   ·have q:ltA lt d i a=false:=q;rwa [qk2 hy hx] at q
 unfold symS;rw[e0,ey,key];unfold pu;have:d.drop i=seg d i b++d.drop b:=by
  have h1:seg d i d.length=d.drop i:=by unfold seg;rw[zb4]
  have h2:seg d b d.length=d.drop b:=by unfold seg;rw[zb4]
  rw[<- h1, <- h2];exact qes d q2 hb
 rw[this];simp
theorem q49(hp:Ord2 lt)(d:List α){a m f:Nat}(hb:m+1<=d.length)(hab:a<m)(hf:m - a<f){y:α}(hy:d[m]? =some y)(hs:Srt lt (seg d a m)):
  ∀i,i=bsr (fun h=> !(ltA lt d m h)) f a m->a<=i/\i<=m/\pu d i (m+1) (y::seg d i m)=symS lt d a m (m+1):=by
 intro i hi;obtain⟨q1,q2,q3,q4⟩:=qpy (t:=fun h=> !(ltA lt d m h)) f a m a m (by omega) (by omega) (zar _) (zar _) (.inl rfl) (.inl rfl);rw[<- hi] at q1 q2 q3 q4;refine⟨q1,q2, ?_⟩;have e0:seg d m (m+1)=[y]:=by
  refine List.ext_getElem? fun k=> ?_
  cases k with
  | zero=>rw[qdn d (by omega),Nat.add_zero,hy];rfl
  | succ k=>rw[zay (by rw[qbn d hb];omega)];simp
 have ex:=qes d q1 q2;rw[ex] at hs;have key:mg lt (seg d a i++seg d i m) [y]=seg d a i++y::seg d i m:=by
  refine xbga hp hs (fun x hx=> ?_) fun x hx=> ?_
  ·have hl:i<m:=by
    rcases zbo i m with h|h
    ·exact h
    ·have:seg d i m=[]:=zal (by rw[qbn d (by omega)];omega);rw[this] at hx;cases hx
   rw[qwk d hl] at hx;rcases q4 with q|q
   ·omega
   ·have q:(!(ltA lt d m i))=false:=q;rw[qk2 hy hx] at q;simpa using q
  ·have hl:a<i:=by
    rcases zbo a i with h|h
    ·exact h
    ·have:seg d a i=[]:=zal (by rw[qbn d (by omega)];omega);rw[this] at hx;cases hx
   rw[qwl d hl (by omega)] at hx;rcases q3 with q|q
   ·omega
   ·have q:(!(ltA lt d m (i - 1)))=true:=q;rw[qk2 hy hx] at q;simpa using q
 unfold symS;rw[e0,ex,key];unfold pu;have:d.take i=d.take a++seg d a i:=by
  have h1:seg d 0 i=d.take i:=by unfold seg;simp
  have h2:seg d 0 a=d.take a:=by unfold seg;simp
  rw[<- h1, <- h2];exact qes d (zcc _) q1
 rw[this];simp
end
section
variable {α:Type} {lt:α->α->Bool}
def chg2(d:List α)(i j:Nat):List α:=match d[i]?,d[j]? with|some y,some z=>(d.set i z).set j y|_,_=>d
def slide(lt:α->α->Bool):Nat->List α->Nat->Nat->List α
 | 0,d,_,_=>d
 | f+1,d,a,j=>if a<j/\ltA lt d j (j - 1)=true then slide lt f (chg2 d j (j - 1)) a (j - 1) else d
theorem xbcx(hp:Ord2 lt): ∀(f:Nat) (d:List α) (a j:Nat),a<=j->j<d.length->j - a<f->Srt lt (seg d a j)->slide lt f d a j=symS lt d a j (j+1)
 | 0,_,_,_,_,_,_,_=>by omega
 | f+1,d,a,j,haj,hj,hf,hs=>by
  obtain⟨y,hy⟩: ∃y,d[j]? =some y:=⟨_,zae hj⟩;have e1:seg d j (j+1)=[y]:=by
   refine List.ext_getElem? fun k=> ?_
   cases k with
   | zero=>rw[qdn d (by omega),Nat.add_zero,hy];rfl
   | succ k=>rw[zay (by rw[qbn d (by omega)];omega)];simp
  unfold slide;by_cases h:a<j
  ·obtain⟨z,hz⟩: ∃z,d[j - 1]? =some z:=⟨_,zae (by omega)⟩;rw[qk2 hy hz];have e2:seg d (j - 1) j=[z]:=by
    refine List.ext_getElem? fun k=> ?_
    cases k with
    | zero=>rw[qdn d (by omega),Nat.add_zero,hz];rfl
    | succ k=>rw[zay (by rw[qbn d (by omega)];omega)];simp
   have ex:seg d a j=seg d a (j - 1)++[z]:=by rw[<- e2];exact qes d (by omega) (by omega)
   by_cases hlt:lt y z=true
   ·rw[if_pos ⟨h,hlt⟩];have ed:chg2 d j (j - 1)=(d.set j z).set (j - 1) y:=by unfold chg2;rw[hy,hz]
    have el:(chg2 d j (j - 1)).length=d.length:=by rw[ed,List.length_set,List.length_set]
    have g1:seg (chg2 d j (j - 1)) a (j - 1)=seg d a (j - 1):=by
     refine List.ext_getElem? fun k=> ?_;by_cases hk:k<j - 1 - a
     ·rw[qdn _ hk,qdn _ hk,ed,List.getElem?_set_ne (by omega),List.getElem?_set_ne (by omega)]
     ·rw[zay (by rw[qbn _ (by omega)];omega),zay (by rw[qbn _ (by omega)];omega)]
    rw[xbcx hp f _ a (j - 1) (by omega) (by omega) (by omega) (by rw[g1];rw[ex] at hs;exact(qgr hs).1)];rw[show j - 1+1=j by omega];unfold symS;rw[g1,ex,e1,xbfy hlt];have g2:seg (chg2 d j (j - 1)) (j - 1) j=[y]:=by
     refine List.ext_getElem? fun k=> ?_
     cases k with
     | zero=>rw[qdn _ (by omega),Nat.add_zero,ed,List.getElem?_set_self (by rw[List.length_set];omega)];rfl
     | succ k=>rw[zay (by rw[qbn _ (by omega)];omega)];simp
    rw[g2];refine List.ext_getElem? fun k=> ?_;have hm:(mg lt (seg d a (j - 1)) [y]).length=j - a:=by rw[xbfz,qbn d (by omega)];simp only[zaf,zbt];omega
    rw[qnz _ (by omega) (by omega) hm,qnz d (by omega) (by omega) (by rw[zah,hm];simp only[zaf,zbt];omega)];by_cases k1:a<=k/\k<j
    ·rw[if_pos k1,if_pos (by omega),zax (by omega)]
    ·rw[if_neg k1];by_cases k2:k=j
     ·subst k2;rw[if_pos (by omega),zav (by omega),hm,Nat.sub_self,ed,List.getElem?_set_ne (by omega),List.getElem?_set_self hj];rfl
     ·rw[if_neg (by omega),ed,List.getElem?_set_ne (by omega),List.getElem?_set_ne (by omega)]
   ·have hlt:=zau.2 hlt;rw[if_neg (by rw[hlt];simp)];unfold symS;rw[ex] at hs;rw[ex,e1,xbfx hp hs hlt];have:seg d a (j - 1)++[z,y]=seg d a (j+1):=by rw[qes d (show a<=j by omega) (show j<=j+1 by omega),ex,e1];simp
    rw[this,qyb d (by omega) (by omega)]
  ·obtain rfl:a=j:=by omega
   rw[if_neg (by omega),qwr d (by omega) (by omega) (by omega) (.inl rfl)]
theorem xbvo{s:Nat}:bk lt s ([]:List α)=[]:=by rw[q0p (zcc _)];rfl
theorem qxc{s:Nat}(hs:0<s){l:List α}(h:s<=l.length):bk lt s l=isort lt (l.take s)++bk lt s (l.drop s):=by
 rcases zbo s l.length with h1|h1
 ·exact xbo9 hs h1
 ·rw[q0p (by omega),zbs (by omega),List.drop_of_length_le (by omega),xbvo,za9]
theorem xbvp{s:Nat}(hs:0<s){l:List α}(h:2*s<=l.length):bk lt s l=isort lt (l.take s)++(isort lt ((l.drop s).take s)++bk lt s (l.drop (2*s))):=by rw[qxc hs (by omega),qxc hs (l:=l.drop s) (by rw[zat];omega),List.drop_drop,show s+s=2*s by omega]
theorem xbo8{s:Nat}(hs:0<s){l:List α}(h1:s<=l.length)(h2:l.length<=2*s):bk lt s l=isort lt (l.take s)++isort lt (l.drop s):=by rw[qxc hs h1,q0p (l:=l.drop s) (by rw[zat];omega)]
def Done(lt:α->α->Bool)(s:Nat)(d0 rest d:List α)(a:Nat):Prop:= ∃P,P.length=a/\d=P++rest/\bk lt s d0=P++bk lt s (d0.drop a)
theorem q4j(hp:Ord2 lt){s:Nat}(hs:0<s){d0 d:List α}{a:Nat}(h:a+2*s<=d0.length)(hd:Done lt (2*s) d0 (bk lt s (d0.drop a)) d a):
  Srt lt (seg d a (a+s))/\Srt lt (seg d (a+s) (a+2*s))/\Done lt (2*s) d0 (bk lt s (d0.drop (a+2*s))) (symS lt d a (a+s) (a+2*s)) (a+2*s):=by
 obtain⟨P,h1,h2,h3⟩:=hd;have hl:(d0.drop a).length=d0.length - a:=zat ..;rw[xbvp hs (by omega)] at h2;obtain⟨u,hu⟩: ∃u,u=isort lt ((d0.drop a).take s):=⟨_,rfl⟩;obtain⟨v,hv⟩: ∃v,v=isort lt (((d0.drop a).drop s).take s):=⟨_,rfl⟩;have lu:u.length=s:=by rw[hu,qdd,zbp];omega
 have lv:v.length=s:=by rw[hv,qdd,zbp,zat];omega
 rw[<- hu, <- hv] at h2;have g1:seg d a (a+s)=u:=by unfold seg;rw[h2, <- za6,List.take_left' (by rw[zah];omega),List.drop_left' h1]
 have g2:seg d (a+s) (a+2*s)=v:=by unfold seg;rw[h2, <- za6, <- za6,List.take_left' (by rw[zah,zah];omega),List.drop_left' (by rw[zah];omega)]
 have em:mg lt u v=isort lt ((d0.drop a).take (2*s)):=by rw[hu,hv,xbjn hp];congr 1;rw[show 2*s=s+s by omega,List.take_add]
 refine⟨by rw[g1,hu];exact qfl hp.toPre2 hp.irr _,by rw[g2,hv];exact qfl hp.toPre2 hp.irr _,P++mg lt u v,by rw[zah,xbfz];omega, ?_, ?_⟩
 ·unfold symS;rw[g1,g2];unfold pu;have e1:d.take a=P:=by rw[h2,List.take_left' h1]
  have e2:d.drop (a+2*s)=bk lt s ((d0.drop a).drop (2*s)):=by rw[h2, <- za6, <- za6,List.drop_left' (by rw[zah,zah];omega)]
  rw[e1,e2,List.drop_drop,za6]
 ·rw[h3,qxc (s:=2*s) (by omega) (by omega), <- em,List.drop_drop,za6]
theorem xbbw(hp:Ord2 lt){s:Nat}(hs:0<s){d0 d:List α}{a:Nat}(ha:a<=d0.length)(h:d0.length<a+2*s)(hd:Done lt (2*s) d0 (bk lt s (d0.drop a)) d a):
  (a+s<d0.length->Srt lt (seg d a (a+s))/\Srt lt (seg d (a+s) d0.length))/\(if a+s<d0.length then symS lt d a (a+s) d0.length else d)=bk lt (2*s) d0:=by
 obtain⟨P,h1,h2,h3⟩:=hd;have hl:(d0.drop a).length=d0.length - a:=zat ..;rw[q0p (l:=d0.drop a) (by omega)] at h3;by_cases hlt:a+s<d0.length
 ·rw[if_pos hlt];rw[xbo8 hs (by omega) (by omega)] at h2;obtain⟨u,hu⟩: ∃u,u=isort lt ((d0.drop a).take s):=⟨_,rfl⟩;obtain⟨v,hv⟩: ∃v,v=isort lt ((d0.drop a).drop s):=⟨_,rfl⟩;have lu:u.length=s:=by rw[hu,qdd,zbp];omega
  have lv:v.length=d0.length - (a+s):=by rw[hv,qdd,zat];omega
  rw[<- hu, <- hv] at h2;have ld:d.length=d0.length:=by rw[h2,zah,zah];omega
  have g1:seg d a (a+s)=u:=by unfold seg;rw[h2, <- za6,List.take_left' (by rw[zah];omega),List.drop_left' h1]
  have g2:seg d (a+s) d0.length=v:=by unfold seg;rw[zbs (by omega),h2, <- za6,List.drop_left' (by rw[zah];omega)]
  refine⟨fun _=>⟨by rw[g1,hu];exact qfl hp.toPre2 hp.irr _,by rw[g2,hv];exact qfl hp.toPre2 hp.irr _⟩, ?_⟩;unfold symS;rw[g1,g2,h3,hu,hv,xbjn hp,List.take_append_drop];unfold pu;have e2:d.drop d0.length=[]:=List.drop_of_length_le (by omega);have e3:d.take a=P:=by rw[h2,List.take_left' h1]
  rw[e2,e3,za9]
 ·rw[if_neg hlt];refine⟨fun h=>absurd h hlt, ?_⟩;rw[q0p (by omega)] at h2;rw[h2,h3]
theorem xbbv{s:Nat}{d0:List α}(h:d0.length<=s):bk lt s d0=isort lt d0:=q0p h
end
section
variable {α:Type} {lt:α->α->Bool}
def insS(lt:α->α->Bool)(d:List α)(a b:Nat):List α:=pu d a b (isort lt (seg d a b))
theorem qm8(d:List α){a b:Nat}(h:a<=b)(hb:b<=d.length):(insS lt d a b).length=d.length:=qya d h hb (by rw[qdd,qbn d hb])
theorem q4w(d:List α){i:Nat}{y:α}(hy:d[i]? =some y):seg d i (i+1)=[y]:=by
 have hl:=(zad.1 hy).1;refine List.ext_getElem? fun k=> ?_
 cases k with
 | zero=>rw[qdn d (by omega),Nat.add_zero,hy];rfl
 | succ k=>rw[zay (by rw[qbn d (by omega)];omega)];simp
theorem qu7(d:List α){a b:Nat}(h:a<=b)(h1:b<=a+1)(hb:b<=d.length):insS lt d a b=d:=by
 unfold insS;have:isort lt (seg d a b)=seg d a b:=by
  have hl:=qbn d hb (a:=a)
  match he:seg d a b with
  | []=>rfl
  | [x]=>rfl
  | x::y::r=>rw[he] at hl;simp at hl;omega
 rw[this,qyb d h hb]
theorem xbai(hp:Ord2 lt)(d:List α){a i f:Nat}(h:a<=i)(hi:i<d.length)(hf:i - a<f):slide lt f (insS lt d a i) a i=insS lt d a (i+1):=by
 have hl:=qm8 (lt:=lt) d h (by omega);have hsl:(isort lt (seg d a i)).length=i - a:=by rw[qdd,qbn d (by omega)]
 obtain⟨y,hy⟩: ∃y,d[i]? =some y:=⟨_,zae hi⟩;have g1:seg (insS lt d a i) a i=isort lt (seg d a i):=by have:=xbcp d (a:=a) (b:=i) (s:=isort lt (seg d a i)) (u:=[]) (v:=isort lt (seg d a i)) (w:=[]) (by omega) (by simp);rw[show a+([]:List α).length=a from rfl,hsl,show a+(i - a)=i by omega] at this;exact this
 have gy:(insS lt d a i)[i]? =some y:=by unfold insS;rw[qnz d h (by omega) hsl,if_neg (by omega),hy]
 rw[xbcx hp f _ a i h (by omega) hf (by rw[g1];exact qfl hp.toPre2 hp.irr _)];unfold symS;rw[g1,q4w _ gy, <- q3t hp, <- q4w d hy, <- qes d h (Nat.le_succ i)];refine List.ext_getElem? fun k=> ?_;have hl2:(isort lt (seg d a (i+1))).length=i+1 - a:=by rw[qdd,qbn d (by omega)]
 unfold insS;rw[qnz _ (by omega) (by have:=qm8 (lt:=lt) d h (by omega);unfold insS at this;omega) hl2,qnz d (by omega) (by omega) hl2,qnz d h (by omega) hsl];by_cases hk:a<=k/\k<i+1
 ·rw[if_pos hk,if_pos hk]
 ·rw[if_neg hk,if_neg hk,if_neg (by omega)]
def xbhk(lt:α->α->Bool)(s:Nat)(d0 d:List α)(a:Nat):Prop:= ∃P,P.length=a/\d=P++d0.drop a/\bk lt s d0=P++bk lt s (d0.drop a)
theorem qxe{s:Nat}(d:List α):xbhk lt s d d 0:=⟨[],rfl,rfl,rfl⟩
theorem qxf{s:Nat}(hs:0<s){d0 d:List α}{a:Nat}(h:a+s<=d0.length)(hd:xbhk lt s d0 d a):xbhk lt s d0 (insS lt d a (a+s)) (a+s):=by
 obtain⟨P,h1,h2,h3⟩:=hd;have hl:(d0.drop a).length=d0.length - a:=zat ..;have e1:d.take a=P:=by rw[h2,List.take_left' h1]
 have e2:seg d a (a+s)=(d0.drop a).take s:=by unfold seg;rw[h2,List.take_append,zbs (by omega),h1,show a+s - a=s by omega,List.drop_left' h1]
 have e3:d.drop (a+s)=d0.drop (a+s):=by rw[h2,List.drop_append,List.drop_of_length_le (by omega),h1,show a+s - a=s by omega,List.drop_drop];rfl
 refine⟨P++isort lt ((d0.drop a).take s),by rw[zah,qdd,zbp];omega, ?_, ?_⟩
 ·unfold insS pu;rw[e1,e2,e3,za6]
 ·rw[h3,qxc hs (l:=d0.drop a) (by omega),List.drop_drop,za6]
theorem q2w{s:Nat}{d0 d:List α}{a:Nat}(ha:a<=d0.length)(h:d0.length<=a+s)(hd:xbhk lt s d0 d a):insS lt d a d0.length=bk lt s d0:=by
 obtain⟨P,h1,h2,h3⟩:=hd;have hl:(d0.drop a).length=d0.length - a:=zat ..;have ld:d.length=d0.length:=by rw[h2,zah];omega
 have e1:d.take a=P:=by rw[h2,List.take_left' h1]
 have e2:seg d a d0.length=d0.drop a:=by unfold seg;rw[zbs (by omega),h2,List.drop_left' h1]
 have e3:d.drop d0.length=[]:=List.drop_of_length_le (by omega);rw[h3,q0p (by omega)];unfold insS pu;rw[e1,e2,e3,za9]
theorem q4i{s:Nat}(d0:List α):Done lt (2*s) d0 (bk lt s (d0.drop 0)) (bk lt s d0) 0:=⟨[],rfl,rfl,rfl⟩
end
def stOk(y:Int):Bool:=decide (1<=y/\y<=20000)
def qk6(y:Int):Bool:=decide (y % 4=0/\(y % 100≠0\/y % 400=0))
def qhl(y m:Int):Int:=if m=2 then(if qk6 y=true then 29 else 28) else if m=4\/m=6\/m=9\/m=11 then 30 else 31
def qop(y m d h i s:Int):Bool:=decide ((1<=y/\y<=9999/\1<=m/\m<=12)/\(1<=d/\d<=qhl y m)/\0<=h/\h<24/\0<=i/\i<60/\0<=s/\s<60)
def qht(y m:Int):Int:=if 1<=y/\y<=9999/\1<=m/\m<=12 then qhl y m else 0
def qd2(y:Int):Int:=(y - 1)*365+(y - 1)/ 4 - (y - 1)/ 100+(y - 1)/ 400
def qdp(y m:Int):Int:=if m<=2 then 31*(m - 1) else(153*(m - 3)+2)/ 5+59+(if qk6 y=true then 1 else 0)
def qsg(y m d h i s:Int):Int:= -62135596800+(qd2 y+qdp y m+(d - 1))*86400+(h*3600+i*60+s)
def qn4(a b:Int):Int:=if a<48\/57<a\/b<48\/57<b then -100000 else 10*(a - 48)+(b - 48)
def qeq(s:ByteArray):Int:=qn4 (bget s 0) (bget s 1)
def qtm:List Int->Int->Int
 | [],n=>n
 | c::r,n=>if c<48\/57<c then -1 else qtm r (n*10+(c - 48))
def qdk(s:ByteArray):Int:=qtm (bytesOf s) 0
def qn5(s:ByteArray):Int×Int:=
 if s.size=15/\bget s 14=90 then
  let y:=qn4 (bget s 2) (bget s 3)+100*qn4 (bget s 0) (bget s 1);let m:=qn4 (bget s 4) (bget s 5);let d:=qn4 (bget s 6) (bget s 7);let h:=qn4 (bget s 8) (bget s 9);let i:=qn4 (bget s 10) (bget s 11);let c:=qn4 (bget s 12) (bget s 13)
  if qop y m d h i c=true then(qsg y m d h i c,0) else(0,1)
 else(0,1)
abbrev LI:=List Int
abbrev LC:=List CV
abbrev OO:=Option Out
abbrev KT:=Ex->St->Option Out
def xbhp(x:Int):Bool:=decide (0<=x/\x<=255)
def qad(b:List Int):Bool:=shut (decide (b.length<=1000000)&&b.all xbhp)
def qr9(b:List Int):Bool:=shut (decide (b.length<=100000000))
def u32Ok(n:Int):Bool:=shut (decide (0<=n/\n<=4294967295))
def qkd(n:Int):Bool:=shut (decide (0<=n/\n<=1000))
def qll(a b:List Int):Bool:=decide (a=b)
def qa5(a b:List Int):Bool:=shut (qll a b)
def qao:List Int->List Int->Int
 | [],[]=>0
 | [],_::_=> -1
 | _::_,[]=>1
 | x::a,y::b=>if x<y then -1 else if y<x then 1 else qao a b
def qbk(a b:List Int):Int:=shut (qao a b)
def qg4(a b:List Int):Bool:=shut (decide (qao a b<0))
def qb9(b:List Int):Int:=b.foldl (fun n x=>n*256+x) 0
def qay(tag:Int):Bool:=decide (tag=48\/tag=49\/(160<=tag/\tag<=190))
def qcb(tag:Int):Bool:=shut (qay tag)
def qbm(tag:Int):Bool:=decide (tag=1\/tag=2\/tag=3\/tag=4\/tag=5\/tag=6\/tag=12\/tag=24)|| (qay tag|| decide (128<=tag/\tag<=158))
def qft(tag:Int):Bool:=shut (qbm tag)
def qat(n:Int):Int:=if n<128 then 1 else if n<256 then 2 else if n<65536 then 3 else 4
def qef(n:Int):Int:=shut (qat n)
def qlg:List Int->Bool
 | []=>false
 | [_]=>true
 | x::y::_=> !(decide (x=0/\y<128))&& !(decide (x=255/\128<=y))
def qev(b:List Int):Bool:=shut (qlg b)
def qo2:List Int->Bool
 | []=>false
 | [x]=>decide (x=0)
 | x::y::r=>decide (x<=7)&&decide ((y::r).getLast (by simp) % 2 ^ x.toNat=0)
def qg0(b:List Int):Bool:=shut (qo2 b)
def u8At(l:List Int)(k:Nat):Bool:=match l[k]? with|some x=>decide (128<=x/\x<192)|none=>false
def u8Cont(b:List Int)(i:Int):Bool:=shut (u8At b i.toNat)
def qc8:List Int->Int
 | []=>0
 | c::r=>
  if c<128 then 1
  else if 194<=c/\c<=223/\u8At r 0=true then 2
  else if 224<=c/\c<=239/\u8At r 0=true/\u8At r 1=true/\(c=224->160<=r.headD 0)/\(c=237->r.headD 0<160) then 3
  else if 240<=c/\c<=244/\u8At r 0=true/\u8At r 1=true/\u8At r 2=true/\(c=240->144<=r.headD 0)/\(c=244->r.headD 0<144) then 4
  else 0
def u8Rune(b:List Int)(i:Int):Int:=shut (qc8 (b.drop i.toNat))
def qhm:Nat->List Int->Bool
 | 0,_=>true
 | n+1,l=>if l=[] then true else if qc8 l=0 then false else qhm n (l.drop (qc8 l).toNat)
def qci(l:List Int):Bool:=qhm l.length l
def u8Valid(b:List Int):Bool:=shut (qci b)
def xbki(l:List Int):Int:=
 ((l.getD 0 0).toNat||| (l.getD 1 0).toNat*2 ^ 8||| (l.getD 2 0).toNat*2 ^ 16||| (l.getD 3 0).toNat*2 ^ 24||| (l.getD 4 0).toNat*2 ^ 32||| (l.getD 5 0).toNat*2 ^ 40||| (l.getD 6 0).toNat*2 ^ 48||| (l.getD 7 0).toNat*2 ^ 56:Nat)
def u8Word(b:List Int):Int:=shut (xbki b)
def qf1:List Int:=List.replicate 128 240++List.replicate 66 241++List.replicate 30 2++[19]++List.replicate 12 3++[35]++List.replicate 2 3++[52]++List.replicate 3 4++[68]++List.replicate 11 241
def qj9:List CV:=([(128,191),(160,191),(128,159),(144,191),(128,143)]++List.replicate 11 (0,0):List (Int×Int)).map fun p=>.agg [.int .u8 p.1,.int .u8 p.2]
def u8First:List Int:=shut qf1
def u8Accept:List CV:=shut qj9
def qbf:List Int->Bool
 | x::y::r=>decide (r.length<=18)&&(decide (x<2/\y<40)|| decide (x=2/\y<=4294967215))
 | _=>false
def qhf(o:List Int):Bool:=shut (qbf o)
def qbs(n:Int):List Int:=if n<80 then[n/ 40,n % 40] else[2,n - 80]
def qfe(n:Int):List Int:=shut (qbs n)
def qbt:Int->Int->List Int->Int×Int
 | _,_,[]=>(0,0)
 | n,i,c::r=>if(i=0/\c=128)\/33554431<n then(0,0) else if c<128 then(n*128+c,i+1) else qbt (n*128+(c - 128)) (i+1) r
def qan(b:List Int):Int×Int:=qbt 0 0 b
def qex(b:List Int):Int×Int:=shut (qan b)
def qcv:Nat->List Int->List (Int×Bool)
 | 0,_=>[]
 | n+1,b=>if b=[] then[] else if(qan b).2=0 then[((qan b).1,false)] else((qan b).1,true)::qcv n (b.drop (qan b).2.toNat)
def qcf(b:List Int):List (Int×Bool):=qcv b.length b
def qs4(b:List Int):List (Int×Bool):=shut (qcf b)
def qq6(l:List (Int×Bool)):List (List CV):=shut (l.map fun p=>[.int .u32 p.1,.bool p.2])
def qr4:List (Int×Bool)->List Int->Option (List Int)
 | [],o=>some o
 | (n,ok)::r,o=>if ok=false\/20<o.length then none else if o=[] then qr4 r (qbs n) else qr4 r (o++[n])
def qde(b:List Int):List Int×Int:=match qr4 (qcf b) [] with
 | some o=>if qbf o=true then(o,0) else([],5)
 | none=>([],5)
def qb2(b:List Int):List Int×Int:=shut (qde b)
def qbo(tag:Int)(b:List Int):Bool:=
 if tag=1 then decide (b=[0]\/b=[255])
 else if tag=2 then qlg b
 else if tag=3 then qo2 b
 else if tag=5 then decide (b=[])
 else if tag=6 then decide ((qde b).2=0)
 else if tag=12 then qci b
 else if tag=24 then decide ((qn5 (xbeo b)).2=0)
 else true
def qgb(tag:Int)(b:List Int):Bool:=shut (qbo tag b)
def qah:List Int->Int×Int
 | []=>(0,0)
 | c::t=>if c<128 then(c,1) else if c=128\/131<c\/(t.length:Int)<c - 128 then(0,0)
  else if t.headD 0=0\/qb9 (t.take (c - 128).toNat)<128 then(0,0) else(qb9 (t.take (c - 128).toNat),1+(c - 128))
abbrev Nd:=Int×List Int×List CV
def nd0:Nd:=(0,[],[])
def ndCV(x:Nd):CV:=.agg [.int .i64 x.1,.sli .u8 x.2.1,.slg 3 x.2.2]
def qbg:List (List Int)->Bool
 | a::b::r=>decide (qao a b<=0)&&qbg (b::r)
 | _=>true
def rowB(l:List Int):Bool:=decide (l.length<=1000000)&&l.all xbhp
def xbsv:CV->Bool
 | .sli .u8 l=>rowB l
 | _=>false
def qkg(l:List CV):Bool:=shut (decide (l.length<=1000000)&&l.all xbsv)
def qb1(l:List CV):Bool:=shut (qbg (l.map qbb))
def qc9(l:List CV):List Int:=shut (l.flatMap qbb)
def qkf(f:List Int->Int×Nd×Int):Nat->List Int->Int×List Nd×List (List Int)
 | 0,_=>(0,[],[])
 | m+1,b=>if b=[] then(0,[],[]) else
  if(f b).1=0 then
   let p:=qkf f m (b.drop (f b).2.2.toNat)
   (p.1,(f b).2.1::p.2.1,b.take (f b).2.2.toNat::p.2.2)
  else((f b).1,[],[])
def qsd:Nat->List Int->Int×Nd×Int
 | 0,_=>(3,nd0,0)
 | n+1,b=>match b with
  | []=>(1,nd0,0)
  | t::r=>if qbm t=false then(4,nd0,0)
   else if(qah r).2=0\/(r.length:Int) - (qah r).2<(qah r).1 then(1,nd0,0)
   else
    let inside:=(r.drop (qah r).2.toNat).take (qah r).1.toNat;let used:=1+(qah r).2+(qah r).1
    if qay t=false then(if qbo t inside=true then(0,(t,inside,[]),used) else(5,nd0,0))
    else
     let p:=qkf (qsd n) inside.length inside
     if p.1=0 then(if t=49/\qbg p.2.2=false then(6,nd0,0) else(0,(t,[],p.2.1.map ndCV),used)) else(p.1,nd0,0)
def isNf:Nat->List CV->Bool
 | 0,_=>false
 | n+1,[.int .i64 _,.sli .u8 b,.slg 3 l]=>decide (b.length<=100000000)&&(decide (l.length<=100000000)&&l.all fun c=>match c with|.agg x=>isNf n x|_=>false)
 | _+1,_=>false
def isNk(n:Nat):CV->Bool
 | .agg x=>isNf n x
 | _=>false
def isNr(n:Nat)(l:List CV):Bool:=shut (isNf n l)
def isN(l:List CV):Bool:=shut (@decide (∃n,isNf n l=true) (Classical.propDecidable _))
def xbi7(n:Nat)(l:List CV):Bool:=shut (decide (l.length<=100000000)&&l.all (isNk n))
def isNs(l:List CV):Bool:=shut (@decide (l.length<=100000000/\∃n,l.all (isNk n)=true) (Classical.propDecidable _))
def qfw(a b:List CV):Bool:=shut (@decide (a=b) (Classical.propDecidable _))
def qq3(a b:List CV):Bool:=shut (@decide (a=b) (Classical.propDecidable _))
def xbfg(n:Int):Bool:=shut (decide (0<=n/\n<=100000000))
def qbe:List Int:=shut []
def qot(n:Int):Bool:=shut (decide (0<=n/\n<=30000))
def qdv(tag n:Int):List Int:=tag::(if n<128 then[n] else if n<256 then[129,n] else if n<65536 then[130,n/ 256,n % 256] else[131,n/ 65536,n/ 256 % 256,n % 256])
def qc6(tag n:Int):List Int:=shut (qdv tag n)
def qke(tag n:Int):Bool:=shut (decide ((0<=tag/\tag<=255)/\0<=n/\n<16777216))
def qnb(l:List CV):Bool:=shut (decide (l.length<=1000000)&&(l.all xbsv&&decide ((l.flatMap qbb).length<=1000000)))
def isTf:Nat->List CV->Bool
 | 0,_=>false
 | n+1,[.int .i64 _,.sli .u8 b,.slg 3 l]=>b.all xbhp&&l.all fun c=>match c with|.agg x=>isTf n x|_=>false
 | _+1,_=>false
def isTr(n:Nat)(a:List CV):Bool:=shut (isTf n a)
def isT(a:List CV):Bool:=shut (@decide (∃n,isTf n a=true) (Classical.propDecidable _))
def qdi(f:List CV->Int->Int):List CV->Int->Int
 | [],x=>x
 | c::r,x=>if x<0 then x else qdi f r (f (cell1 c) x)
def qi8:Nat->List CV->Int->Int
 | n+1,[.int .i64 _,.sli .u8 b,.slg 3 l],x=>qdi (qi8 n) l (x - 1 - min (b.length:Int) 1048576)
 | _,_,x=>x
def qds:Nat->List CV->Nat
 | n+1,[.int .i64 _,.sli .u8 b,.slg 3 l]=>1+b.length+(l.map fun c=>qds n (cell1 c)).sum
 | _,_=>0
def okF:Nat->Nat->List CV->Bool
 | n+1,d+1,[.int .i64 t,.sli .u8 b,.slg 3 l]=>qbm t&&(if qay t=true then decide (b=[])&&l.all fun c=>okF n d (cell1 c) else decide (l=[])&&qbo t b)
 | _,_,_=>false
def qam:Nat->List CV->List Int×Bool
 | n+1,[.int .i64 t,.sli .u8 b,.slg 3 l]=>
  if qay t=true then
   let ks:=l.map fun c=>qam n (cell1 c);let bs:=ks.map (·.1)
   (qdv t bs.flatten.length++bs.flatten,ks.all (·.2)&&(!(decide (t=49))|| qbg bs))
  else(qdv t b.length++b,true)
 | _,_=>([],false)
def rkOf(a:List CV):Nat:=@dite _ (∃n,isTf n a=true) (Classical.propDecidable _) (fun h=>Classical.choose h) (fun _=>0)
def qbz(a:List CV)(left:Int):Int:=shut (qi8 (rkOf a) a left)
def q1h(a:List CV)(deep:Int):Int:=shut (if okF (rkOf a) deep.toNat a=true then((qam (rkOf a) a).1.length:Int) else -1)
def isSr(n:Nat)(a:List CV):Bool:=shut (isTf n a&&(decide (qds n a<=30000)))
def isS(a:List CV):Bool:=shut (@decide (∃n,isTf n a=true/\qds n a<=30000) (Classical.propDecidable _))
def isWr(n:Nat)(a:List CV):Bool:=shut (@decide (isTf n a=true/\qds n a<=30000/\∃d,okF n d a=true) (Classical.propDecidable _))
def isW(a:List CV):Bool:=shut (@decide (∃n,isTf n a=true/\qds n a<=30000/\∃d,okF n d a=true) (Classical.propDecidable _))
def qi2(a:List CV):List Int×Bool:=shut (if(qam (rkOf a) a).2=true then((qam (rkOf a) a).1,true) else([],false))
def qfd(a:List CV)(deep:Int):List Int×Bool:=shut (if okF (rkOf a) deep.toNat a=true/\(qam (rkOf a) a).2=true then((qam (rkOf a) a).1,true) else([],false))
def qa0(a:List CV):List Int×Int:=shut (if okF (rkOf a) 32 a=true/\(qam (rkOf a) a).2=true then((qam (rkOf a) a).1,0) else([],1))
def qou(a:List CV):Bool:=shut (decide (okF (rkOf a) 32 a=true/\(qam (rkOf a) a).2=true))
def u32B(n:Int):Bool:=decide (0<=n/\n<=4294967295)
def qsh(o:List Int):Bool:=shut (decide (o.length<=100000000000000)&&o.all u32B)
def gHi:Nat->Int->List Int
 | 0,_=>[]
 | f+1,n=>if n=0 then[] else gHi f (n/ 128)++[128+n % 128]
def qar(n:Int):List Int:=gHi 5 (n/ 128)++[n % 128]
def qbi(n:Int):List Int:=shut (qar n)
def qb0(o:List Int):List Int:=if qbf o=true then(match o with|x::y::r=>qar (40*x+y)++r.flatMap qar|_=>[]) else[]
def qal(o:List Int):List Int:=shut (qb0 o)
def qk3:List CV:=shut []
def qtp(g t:Int)(b:List Int)(k:List CV):Int:=if t≠g then 4 else if k.length≠0\/qbo g b=false then 5 else 0
def qry(g t:Int)(b:List Int)(k:List CV):List Int×Int:=shut (if qtp g t b k=0 then(b,0) else([],qtp g t b k))
def qf2(t:Int)(b:List Int)(k:List CV):List Int×Int:=shut (if qtp 6 t b k=0 then qb2 b else([],qtp 6 t b k))
def keyC(c:CV):List Int:=qbb ((cell1 c).getD 3 .nili)
def qm7(x:CV):List CV->List CV
 | []=>[x]
 | y::r=>if qao (keyC x) (keyC y)<0 then y::qm7 x r else x::y::r
def qoy(l:List CV):List CV:=(l.foldl (fun acc x=>qm7 x acc) []).reverse
def qd4(c:CV):CV:=.agg (cell1 c++[.sli .u8 (qa0 (cell1 c)).1])
def q2k(l:List CV):Int×List CV×Int:=if l.all (fun c=>decide ((qa0 (cell1 c)).2=0))=true then(49,(qoy (l.map qd4)).map (fun c=>.agg ((cell1 c).take 3)),0) else(0,[],1)
def vSet(l:List CV):Int×List CV×Int:=shut (q2k l)
def xbg2(l:List CV):Bool:=shut (@decide (l.length<=2000/\∀c∈l, ∃t b k,c=.agg [.int .i64 t,.sli .u8 b,.slg 3 k]/\isS [.int .i64 t,.sli .u8 b,.slg 3 k]=true) (Classical.propDecidable _))
def xbor(g:Int)(b:List Int):Int×List Int×Int:=if qbo g b=true then(g,b,0) else(0,[],5)
def qcr(g:Int)(b:List Int):Int×List Int×Int:=shut (xbor g b)
def qqx(g:Int)(b:List Int):Bool:=shut (decide ((g=12\/g=6\/g=24)/\b.length<=2000)&&b.all xbhp)
def idOk(o:List Int):Bool:=shut (decide (o.length<=100000000000000)&&o.all u32B)
def u32Any(o:List Int):Bool:=shut (o.all u32B)
def q2j(g t:Int)(b:List Int)(k:List CV):List CV×Int:=if t≠g\/qay g=false then([],4) else if b.length≠0 then([],5) else(k,0)
def qmp(g t:Int)(b:List Int)(k:List CV):List CV×Int:=shut (q2j g t b k)
def qfu(l:List CV):Bool:=shut (decide (l.length<=100000000))
abbrev ky4(c:CV):List Int:=qbb ((cell1 c).getD 3 .nili)
abbrev ky3(c:CV):List Int:=qbb ((cell1 c).getD 2 .nili)
def ltK(ky:CV->List Int)(x y:CV):Bool:=decide (qao (ky x) (ky y)<0)
def W4A(c:CV):Prop:= ∃t b k w,c=.agg [.int .i64 t,.sli .u8 b,.slg 3 k,.sli .u8 w]/\qad w=true
def W3A(c:CV):Prop:= ∃o k w,c=.agg [.sli .u32 o,.slg 3 k,.sli .u8 w]/\qad w=true
def rows4(m:Nat)(l:List CV):Bool:=shut (@decide (m=l.length/\l.length<=2000/\∀c∈l,W4A c) (Classical.propDecidable _))
def rows3(m:Nat)(l:List CV):Bool:=shut (@decide (m=l.length/\l.length<=2000/\∀c∈l,W3A c) (Classical.propDecidable _))
def swOk(m:Nat)(a b n:Int):Bool:=shut (decide (0<=a/\0<=n/\a+n<=b/\b+n<=(m:Int)))
def qdq(m:Nat)(a p b:Int):Bool:=shut (decide (0<=a/\a<p/\p<b/\b<=(m:Int)))
def swpC(l:List CV)(a b n:Int):List CV:=shut (swp l a.toNat b.toNat n.toNat)
def rotC(l:List CV)(a p b:Int):List CV:=shut (rot l a.toNat p.toNat b.toNat)
def xboz(ky:CV->List Int)(l:List CV)(a p b:Int):Bool:=shut (@decide (Srt (ltK ky) (seg l a.toNat p.toNat)/\Srt (ltK ky) (seg l p.toNat b.toNat)) (Classical.propDecidable _))
def half4(l:List CV)(a p b:Int):Bool:=xboz ky4 l a p b
def half3(l:List CV)(a p b:Int):Bool:=xboz ky3 l a p b
def sym4(l:List CV)(a p b:Int):List CV:=shut (symS (ltK ky4) l a.toNat p.toNat b.toNat)
def sym3(l:List CV)(a p b:Int):List CV:=shut (symS (ltK ky3) l a.toNat p.toNat b.toNat)
def ins4(l:List CV)(a b:Int):List CV:=shut (insS (ltK ky4) l a.toNat b.toNat)
def ins3(l:List CV)(a b:Int):List CV:=shut (insS (ltK ky3) l a.toNat b.toNat)
def srt4(l:List CV):List CV:=shut (isort (ltK ky4) l)
def srt3(l:List CV):List CV:=shut (isort (ltK ky3) l)
def pT(p:Prop):Bool:=@decide p (Classical.propDecidable _)
def typA(c:CV):List Int:=qbb ((cell1 c).getD 0 .nili)
def qhw(c:CV):List CV:=qca ((cell1 c).getD 1 .nili)
abbrev mkA(o:List Int)(k:List CV):CV:=.agg [.sli .u32 o,.slg 3 k]
def qsb(v:CV):Prop:= ∃t b k,v=.agg [.int .i64 t,.sli .u8 b,.slg 3 k]/\isS [.int .i64 t,.sli .u8 b,.slg 3 k]=true
def qf8(k:List CV):Nat:=(k.map fun v=>qds (rkOf (cell1 v)) (cell1 v)).sum
def xbdy(o:List Int):Prop:=o.length<=35184372088832/\∀n∈o,0<=n/\n<=4294967295
def qjd(k:List CV):Prop:=(∀v∈k,qsb v)/\qf8 k<=1800
def WA(c:CV):Prop:= ∃o k,c=mkA o k/\xbdy o/\qjd k
def qp1(l:List CV):Nat:=(l.map fun c=>qf8 (qhw c)).sum
def qkj(o:List Int):Bool:=shut (decide (o.length<=35184372088832))
def xbuu(k:List CV):Bool:=shut (pT (qjd k))
def at1Ok(o:List Int)(k:List CV):Bool:=shut (pT (xbdy o/\qjd k))
def qbh(l:List CV):Bool:=shut (pT (l.length<=1800/\(∀c∈l,WA c)/\qp1 l<=1800))
def qwz(p:List Int):Nat->List CV->Int
 | _,[]=> -1
 | i,c::r=>if typA c=p then(i:Int) else qwz p (i+1) r
def idxA(p:List Int)(l:List CV):Int:=shut (qwz p 0 l)
def hasA(p:List Int)(l:List CV):Bool:=shut (decide (0<=qwz p 0 l))
def twoA(l:List CV):Bool:=shut (decide (¬(l.map typA).Nodup))
def fitV(k:List CV):Prop:= ∀v∈k,(qa0 (cell1 v)).2=0
def wbV(v:CV):CV:=.agg (cell1 v++[.sli .u8 (qa0 (cell1 v)).1])
def itV(k:List CV):List CV×Bool:=shut (@ite _ (fitV k) (Classical.propDecidable _) (isort (ltK ky4) (k.map wbV),true) ([],false))
def cut3(c:CV):CV:=.agg ((cell1 c).take 3)
def cut2(c:CV):CV:=.agg ((cell1 c).take 2)
def thV(l:List CV):List CV:=shut (l.map cut3)
def thA(l:List CV):List CV:=shut (l.map cut2)
def qph(k:List CV):List CV:=@ite _ (fitV k) (Classical.propDecidable _) ((isort (ltK ky4) (k.map wbV)).map cut3) []
def ordV(k:List CV):List CV:=shut (qph k)
def ordB(o:List Int)(k:List CV):Prop:=fitV k/\0<k.length/\qbf o=true
def xbm2(o:List Int)(k:List CV):Bool:=shut (pT (ordB o k))
def ordA(c:CV):CV:=mkA (typA c) (qph (qhw c))
def qw0(o:List Int)(k:List CV):List CV:=[.agg [.int .i64 (qcr 6 (qal o)).1,.sli .u8 (qcr 6 (qal o)).2.1,.slg 3 []],.agg [.int .i64 49,.sli .u8 [],.slg 3 k]]
def qr5(o:List Int)(k:List CV):List CV:=shut (qw0 o k)
def xbox(o:List Int):Bool:=shut (decide ((qcr 6 (qal o)).2.2=0))
def ndA(c:CV):List CV:=[.int .i64 48,.sli .u8 [],.slg 3 (qw0 (typA c) (qhw c))]
def boxA(l:List CV):List CV:=l.map fun c=>.agg (ndA c)
def xblc(l:List CV):List CV:=shut (boxA l)
def wbA(c:CV):CV:=.agg (cell1 c++[.sli .u8 (qa0 (ndA c)).1])
def fitA(l:List CV):Prop:= ∀c∈l,(qcr 6 (qal (typA c))).2.2=0/\(qa0 (ndA c)).2=0
def itA(l:List CV):List CV×Bool:=shut (@ite _ (fitA l) (Classical.propDecidable _) (isort (ltK ky3) (l.map wbA),true) ([],false))
def srtA(l:List CV):List CV:=(isort (ltK ky3) (l.map wbA)).map cut2
def xben(l:List CV):Prop:=(0<l.length/\l.length<=20)/\(l.map typA).Nodup/\(∀c∈l,ordB (typA c) (qhw c))/\fitA (l.map ordA)/\qou [.int .i64 49,.sli .u8 [],.slg 3 (boxA (srtA (l.map ordA)))]=true
def q8r(l:List CV):List CV×Int:=@ite _ (xben l) (Classical.propDecidable _) (srtA (l.map ordA),0) ([],1)
def qfh(l:List CV):List CV×Int:=shut (q8r l)
def qhv(a b:List CV):Bool:=shut (pT (a=b))
def okA(l:List CV):Prop:=xben l/\l=srtA (l.map ordA)
def q0o(l:List CV):Bool:=shut (pT (okA l))
def q8s(g:Int):Bool:=shut (decide (g=49\/(160<=g/\g<=190)))
def qbx(l:List CV)(g:Int):Int×List CV×Int:=shut (if ¬(g=49\/(160<=g/\g<=190)) then(0,[],4) else @ite _ (okA l) (Classical.propDecidable _) (g,boxA l,0) (0,[],1))
def qdr(t:Int)(b:List Int)(k:List CV):List Int×List CV×Bool:=if t=48/\b=[] then(match k with
 | [.agg [.int .i64 t0,.sli .u8 b0,.slg 3 k0],.agg [.int .i64 t1,.sli .u8 b1,.slg 3 k1]]=>if(qf2 t0 b0 k0).2=0 then((qf2 t0 b0 k0).1,(qmp 49 t1 b1 k1).1,decide ((qmp 49 t1 b1 k1).2=0)) else([],[],false)
 | _=>([],[],false)) else([],[],false)
def qka(t:Int)(b:List Int)(k:List CV):List Int×List CV×Bool:=shut (qdr t b k)
def xbzr(x:List CV):Option CV:=match x with
 | [.int .i64 t,.sli .u8 b,.slg 3 k]=>if(qdr t b k).2.2=true then some (mkA (qdr t b k).1 (qdr t b k).2.1) else none
 | _=>none
def q6d(c:CV):Option CV:=xbzr (cell1 c)
def qkb(k:List CV):Option (List CV):=if k.all (fun c=>(q6d c).isSome)=true then some (k.filterMap q6d) else none
def xbxr(g t:Int)(b:List Int)(k:List CV):List CV×Int:=
 if ¬(g=49\/(160<=g/\g<=190))\/t≠g then([],4) else match qkb k with
 | none=>([],1)
 | some l=>@ite _ (b=[]/\okA l) (Classical.propDecidable _) (l,0) ([],1)
def qhy(g t:Int)(b:List Int)(k:List CV):List CV×Int:=shut (xbxr g t b k)
def xbjj(l:List CV)(o:List Int):List CV×Int:=@ite _ (okA l) (Classical.propDecidable _) (match l.find? (fun c=>decide (typA c=o)) with
 | none=>([.int .i64 0,.sli .u8 [],.slg 3 []],18)
 | some c=>if 1<(qhw c).length then([.int .i64 0,.sli .u8 [],.slg 3 []],24) else(cell1 ((qhw c).headD .nili),0)) ([.int .i64 0,.sli .u8 [],.slg 3 []],1)
def qhq(l:List CV)(o:List Int):(Int×List Int×List CV)×Int:=shut ((qfi ((xbjj l o).1.getD 0 .nili),qbb ((xbjj l o).1.getD 1 .nili),qca ((xbjj l o).1.getD 2 .nili)),(xbjj l o).2)
def xbu7(l:List CV):List Int×Int:=@ite _ (okA l) (Classical.propDecidable _) (qa0 [.int .i64 49,.sli .u8 [],.slg 3 (boxA l)]) ([],1)
def qhz(l:List CV):List Int×Int:=shut (xbu7 l)
def uOk(o:List Int)(k:List CV):Prop:=((qcr 6 (qal o)).2.2=0/\0<k.length)/\fitV k
def qpj(o:List Int)(k:List CV):Int×List CV×Int:=shut (@ite _ (uOk o k) (Classical.propDecidable _) (48,qw0 o (q2k k).2.1,0) (0,[],1))
def uOut(l:List CV):List CV:=l.map fun c=>.agg (ndA (mkA (typA c) (q2k (qhw c)).2.1))
def xbuq(l:List CV):Prop:=(0<l.length/\l.length<=20)/\(l.map typA).Nodup/\(∀c∈l,uOk (typA c) (qhw c))/\fitV (uOut l)/\qou [.int .i64 49,.sli .u8 [],.slg 3 (q2k (uOut l)).2.1]=true
def qki(l:List CV):Int×List CV×Int:=shut (@ite _ (xbuq l) (Classical.propDecidable _) (49,(q2k (uOut l)).2.1,0) (0,[],1))
def xbyw(c:CV):Prop:= ∃t b t0 b0 k0 t1 b1 k1,c=.agg [.int .i64 t,.sli .u8 b,.slg 3 [.agg [.int .i64 t0,.sli .u8 b0,.slg 3 k0],.agg [.int .i64 t1,.sli .u8 b1,.slg 3 k1]]]/\isS [.int .i64 t0,.sli .u8 b0,.slg 3 k0]=true
def qqa(k:List CV):Bool:=shut (pT (k.length<=100000/\∀c∈k,xbyw c))
def idV(c:CV):List Int×Int:=qf2 (qfi ((cell1 c).getD 0 .nili)) (qbb ((cell1 c).getD 1 .nili)) (qca ((cell1 c).getD 2 .nili))
def xbl5(c:CV)(i:Nat):CV:=(qca ((cell1 c).getD 2 .nili)).getD i .nili
def qwu(c:CV):CV:=mkA (idV (xbl5 c 0)).1 (qca ((cell1 (xbl5 c 1)).getD 2 .nili))
def qyw(k:List CV):List CV:=shut (k.map qwu)
def xbu8(k:List CV):Bool:=shut (pT (∀c∈k,(qca ((cell1 c).getD 2 .nili)).length=2/\(idV (xbl5 c 0)).2=0))
def ndSm(t:Int)(b:List Int)(k:List CV):Bool:=shut (pT (isS [.int .i64 t,.sli .u8 b,.slg 3 k]=true/\k.length<=1800/\qp1 (k.map qwu)<=1800))
def smA:List CV->Int->Int
 | [],x=>x
 | c::r,x=>if x<0 then x else smA r (qdi qbz (qhw c) (x - min ((typA c).length:Int) 1000))
def qsk(l:List CV)(left:Int):Int:=shut (smA l (left - min (l.length:Int) 1000))
def WT(c:CV):Prop:= ∃o k,c=mkA o k/\xbdy o/\∀v∈k, ∃t b q,v=.agg [.int .i64 t,.sli .u8 b,.slg 3 q]/\isT [.int .i64 t,.sli .u8 b,.slg 3 q]=true
def q6c(l:List CV):Bool:=shut (pT (∀c∈l,WT c))
def smOk(l:List CV)(n:Int):Bool:=shut (decide (l.length<=25/\0<=n/\n<=30000))
def xbow(l:List CV):Bool:=shut (decide (l.length<=25/\0<=smA l (1500 - l.length)))
def qa8:Nat->Option CV:=fun g=>cond (Nat.beq g 1) (some (.aggi 256 .u8 u8First)) (cond (Nat.beq g 2) (some (.agga 16 2 u8Accept)) (none))
def QONums:List V->List Obj->Option (List (List CV)):=fun xs obs=>match xs,obs with
 | [.ptr 0 0 0],[⟨.var [.cl (.sli .u8 b)],false⟩]=>some (qq6 (qs4 b))
 | _,_=>none
def xbby:List V->List Obj->Bool:=fun xs obs=>match xs,obs with
 | [.ptr 0 0 0],[⟨.var [.cl (.sli .u8 b)],false⟩]=>qad b
 | _,_=>false
def qx1:List CV->Bool:=fun x=>match x with
 | [.int .u32 _,.bool _]=>true
 | _=>false
theorem xbbh{x:List CV}(h:qx1 x=true): ∃e1 e2,x=[.int .u32 e1,.bool e2]:=by
 unfold qx1 at h;split at h
 ·exact⟨_,_,rfl⟩
 ·cases h
def KDigits:Ct:=fun
 | [.cl (.str s)],[]=>some (decide (2<=s.size),.leaf (.ret [.cl (.int .i64 (qeq s))] []))
 | _,_=>none
def BDigits:Nat->Ct:=t0
def KDLeap:Ct:=fun
 | [.cl (.aggi 6 .i64 [d0,d1,d2,d3,d4,d5])],[]=>some (stOk d0,.leaf (.ret [.cl (.bool (qk6 d0))] []))
 | _,_=>none
def BDLeap:Nat->Ct:=tb 130 KDigits BDigits
def KDDays:Ct:=fun
 | [.cl (.aggi 6 .i64 [d0,d1,d2,d3,d4,d5])],[]=>some (stOk d0,.leaf (.ret [.cl (.int .i64 (qhl d0 d1))] []))
 | _,_=>none
def BDDays:Nat->Ct:=tb 139 KDLeap BDLeap
def KDFit:Ct:=fun
 | [.cl (.aggi 6 .i64 [d0,d1,d2,d3,d4,d5])],[]=>some (true,.leaf (.ret [.cl (.bool (qop d0 d1 d2 d3 d4 d5))] []))
 | _,_=>none
def BDFit:Nat->Ct:=tb 137 KDDays BDDays
def KDSecs:Ct:=fun
 | [.cl (.aggi 6 .i64 [d0,d1,d2,d3,d4,d5])],[]=>some (qop d0 d1 d2 d3 d4 d5,.leaf (.ret [.cl (.int .i64 (qsg d0 d1 d2 d3 d4 d5))] []))
 | _,_=>none
def BDSecs:Nat->Ct:=tb 131 KDFit BDFit
def KSRead:Ct:=fun
 | [.cl (.str s)],[]=>some (true,.leaf (.ret [.cl (.int .i64 ((qn5 s).1)),.cl (.int .i64 ((qn5 s).2))] []))
 | _,_=>none
def BSRead:Nat->Ct:=tb 132 KDSecs BDSecs
def KRLeap:Ct:=fun
 | [.cl (.int .i64 y)],[]=>some (stOk y,.leaf (.ret [.cl (.bool (qk6 y))] []))
 | _,_=>none
def BRLeap:Nat->Ct:=tb 116 KSRead BSRead
def KRDays:Ct:=fun
 | [.cl (.int .i64 y),.cl (.int .i64 m)],[]=>some (true,.leaf (.ret [.cl (.int .i64 (qht y m))] []))
 | _,_=>none
def BRDays:Nat->Ct:=tb 134 KRLeap BRLeap
def KRYears:Ct:=fun
 | [.cl (.int .i64 y)],[]=>some (stOk y,.leaf (.ret [.cl (.int .i64 (qd2 y))] []))
 | _,_=>none
def BRYears:Nat->Ct:=tb 122 KRDays BRDays
def KRNumber:Ct:=fun
 | [.cl (.str s)],[]=>some (decide (s.size<=18),.leaf (.ret [.cl (.int .i64 (qdk s))] []))
 | _,_=>none
def BRNumber:Nat->Ct:=tb 123 KRYears BRYears
def KRRead:Ct:=fun
 | [.cl (.str s)],[]=>some (true,.leaf (.ret [.cl (.int .i64 ((qn5 s).1)),.cl (.int .i64 ((qn5 s).2))] []))
 | _,_=>none
def BRRead:Nat->Ct:=tb 121 KRNumber BRNumber
def KDBoxed:Ct:=fun
 | [.cl (.int .i64 tag)],[]=>some (true,.leaf (.ret [.cl (.bool (qcb tag))] []))
 | _,_=>none
def BDBoxed:Nat->Ct:=tb 106 KRRead BRRead
def KRBoxed:Ct:=fun
 | [.cl (.int .i64 tag)],[]=>some (true,.leaf (.ret [.cl (.bool (qcb tag))] []))
 | _,_=>none
def BRBoxed:Nat->Ct:=tb 94 KDBoxed BDBoxed
def KDKnown:Ct:=fun
 | [.cl (.int .i64 tag)],[]=>some (true,.leaf (.ret [.cl (.bool (qft tag))] []))
 | _,_=>none
def BDKnown:Nat->Ct:=tb 77 KRBoxed BRBoxed
def KRTagged:Ct:=fun
 | [.cl (.int .i64 tag)],[]=>some (true,.leaf (.ret [.cl (.bool (qft tag))] []))
 | _,_=>none
def BRTagged:Nat->Ct:=tb 97 KDKnown BDKnown
def qk8:Ct:=fun
 | [.cl (.int .i64 n)],[]=>some (true,.leaf (.ret [.cl (.int .i64 (qef n))] []))
 | _,_=>none
def qtu:Nat->Ct:=tb 76 KRTagged BRTagged
def KDNumber:Ct:=fun
 | [.cl (.sli .u8 b)],[]=>some (qad b,.leaf (.ret [.cl (.bool (qev b))] []))
 | _,_=>none
def BDNumber:Nat->Ct:=tb 99 qk8 qtu
def qy4:Ct:=fun
 | [.cl (.sli .u8 b)],[]=>some (qad b,.leaf (.ret [.cl (.bool (qev b))] []))
 | _,_=>none
def qyz:Nat->Ct:=tb 113 KDNumber BDNumber
def KDStrip:Ct:=fun
 | [.cl (.sli .u8 b)],[]=>some (qad b,.leaf (.ret [.cl (.bool (qg0 b))] []))
 | _,_=>none
def BDStrip:Nat->Ct:=tb 103 qy4 qyz
def qtz:Ct:=fun
 | [.cl (.sli .u8 b)],[]=>some (qad b,.leaf (.ret [.cl (.bool (qg0 b))] []))
 | _,_=>none
def qtv:Nat->Ct:=tb 114 KDStrip BDStrip
def KRCont:Ct:=fun
 | [.cl (.sli .u8 b),.cl (.int .i64 i)],[]=>some (decide (0<=i),.leaf (.ret [.cl (.bool (u8Cont b i))] []))
 | _,_=>none
def BRCont:Nat->Ct:=tb 104 qtz qtv
def KRRune:Ct:=fun
 | [.cl (.sli .u8 b),.cl (.int .i64 i)],[]=>some (qad b&&decide (0<=i/\i<b.length),.leaf (.ret [.cl (.int .i64 (u8Rune b i))] []))
 | _,_=>none
def BRRune:Nat->Ct:=tb 133 KRCont BRCont
def KRUtf8:Ct:=fun
 | [.cl (.sli .u8 b)],[]=>some (qad b,.leaf (.ret [.cl (.bool (u8Valid b))] []))
 | _,_=>none
def BRUtf8:Nat->Ct:=tb 120 KRRune BRRune
def KOFit:Ct:=fun
 | [.cl (.sli .u32 o)],[]=>some (true,.leaf (.ret [.cl (.bool (qhf o))] []))
 | _,_=>none
def BOFit:Nat->Ct:=tb 105 KRUtf8 BRUtf8
def KR2Fit:Ct:=fun
 | [.cl (.sli .u32 o)],[]=>some (true,.leaf (.ret [.cl (.bool (qhf o))] []))
 | _,_=>none
def BR2Fit:Nat->Ct:=tb 60 KOFit BOFit
def KR2First:Ct:=fun
 | [.cl (.int .u64 n)],[]=>some (u32Ok n,.leaf (.ret [.cl (.sli .u32 (qfe n))] []))
 | _,_=>none
def BR2First:Nat->Ct:=tb 82 KR2Fit BR2Fit
def KONumber:Ct:=fun
 | [.cl (.sli .u8 b)],[]=>some (qad b,.leaf (.ret [.cl (.int .u32 ((qex b).1)),.cl (.int .i64 ((qex b).2))] []))
 | _,_=>none
def BONumber:Nat->Ct:=tb 111 KR2First BR2First
def KONumbers:Ct:=fun
 | [.cl (.sli .u8 b)],[]=>some (true,.leaf (.ret [.fn (.func 127) [] [.ptr 0 0 0]] [some ⟨.var [.cl (.sli .u8 b)],false⟩]))
 | _,_=>none
def BONumbers:Nat->Ct:=tb 128 KONumber BONumber
def SOParse:List V->List Obj->Tree:=fun xs obs=>match xs,obs with
 | [.cl (.sli .u8 b)],[]=>.leaf (.ret [.cl (.sli .u32 ((qb2 b).1)),.cl (.int .i64 ((qb2 b).2))] [])
 | _,_=>.fail
def qv6:List V->List Obj->Bool:=fun xs obs=>match xs,obs with
 | [.cl (.sli .u8 b)],[]=>qad b
 | _,_=>false
def BOParse:Nat->Ct:=tb 112 KONumbers BONumbers
def KR2Parse:Ct:=fun
 | [.cl (.sli .u8 b)],[]=>some (qad b,.leaf (.ret [.cl (.sli .u32 ((qb2 b).1)),.cl (.int .i64 ((qb2 b).2))] []))
 | _,_=>none
def BR2Parse:Nat->Ct:=tb 96 (ofS qv6 SOParse) BOParse
def KR1Same:Ct:=fun
 | [.cl (.sli .u8 a),.cl (.sli .u8 b)],[]=>some (qr9 a,.leaf (.ret [.cl (.bool (qa5 a b))] []))
 | _,_=>none
def BR1Same:Nat->Ct:=tb 93 KR2Parse BR2Parse
def KR4Less:Ct:=fun
 | [.cl (.sli .u8 a),.cl (.sli .u8 b)],[]=>some (qr9 a,.leaf (.ret [.cl (.bool (qg4 a b))] []))
 | _,_=>none
def BR4Less:Nat->Ct:=tb 24 KR1Same BR1Same
def KUWord:Ct:=fun
 | [.cl (.sli .u8 b)],[]=>some (qad b&&decide (8<=b.length),.leaf (.ret [.cl (.int .u64 (u8Word b))] []))
 | _,_=>none
def BUWord:Nat->Ct:=tb 91 KR4Less BR4Less
def KUValid:Ct:=fun
 | [.cl (.sli .u8 b)],[]=>some (qad b,.leaf (.ret [.cl (.bool (u8Valid b))] []))
 | _,_=>none
def BUValid:Nat->Ct:=tb 129 KUWord BUWord
def SRSame:List V->List Obj->Tree:=fun xs obs=>match xs,obs with
 | [.cl (.agg a),.cl (.agg b)],[]=>.leaf (.ret [.cl (.bool (qfw a b))] [])
 | _,_=>.fail
def qq9:List V->List Obj->Bool:=fun xs obs=>match xs,obs with
 | [.cl (.agg a),.cl (.agg b)],[]=>isN a&&isN b
 | _,_=>false
def qmg(rk:Nat):List V->List Obj->Bool:=fun xs obs=>match xs,obs with
 | [.cl (.agg a),.cl (.agg b)],[]=>isNr rk a&&isN b
 | _,_=>false
def BRSame:Nat->Ct:=tb 115 KUValid BUValid
def KDFits:Ct:=fun
 | [.cl (.int .i64 tag),.cl (.sli .u8 b)],[]=>some (qad b,.leaf (.ret [.cl (.bool (qgb tag b))] []))
 | _,_=>none
def BDFits:Nat->Ct:=tb 23 (ofS qq9 SRSame) BRSame
def KRFits:Ct:=fun
 | [.cl (.int .i64 tag),.cl (.sli .u8 b)],[]=>some (qad b,.leaf (.ret [.cl (.bool (qgb tag b))] []))
 | _,_=>none
def BRFits:Nat->Ct:=tb 98 KDFits BDFits
def KR4Sorted:Ct:=fun
 | [.cl (.slg 1 l)],[]=>some (qkg l,.leaf (.ret [.cl (.bool (qb1 l))] []))
 | _,_=>none
def BR4Sorted:Nat->Ct:=tb 78 KRFits BRFits
def SBACompare:List V->List Obj->Tree:=fun xs obs=>match xs,obs with
 | [.cl (.sli .u8 a),.cl (.sli .u8 b)],[]=>.leaf (.ret [.cl (.int .i64 (qbk a b))] [])
 | _,_=>.fail
def qhg:List V->List Obj->Bool:=fun xs obs=>match xs,obs with
 | [.cl (.sli .u8 a),.cl (.sli .u8 b)],[]=>qad a&&qad b
 | _,_=>false
def BBACompare:Nat->Ct:=tb 80 KR4Sorted BR4Sorted
def KBCompare:Ct:=fun
 | [.cl (.sli .u8 a),.cl (.sli .u8 b)],[]=>some (qad a&&qad b,.leaf (.ret [.cl (.int .i64 (qbk a b))] []))
 | _,_=>none
def BBCompare:Nat->Ct:=tb 87 (ofS qhg SBACompare) BBACompare
def KOLess:Ct:=fun
 | [.cl (.sli .u8 a),.cl (.sli .u8 b)],[]=>some (qad a&&qad b,.leaf (.ret [.cl (.bool (decide (qbk a b<=0)))] []))
 | _,_=>none
def BOLess:Nat->Ct:=tb 63 KBCompare BBCompare
def KOSteps:Ct:=fun
 | [.cl (.slg 1 l),.cl (.fn (.func 118) [] [])],[]=>some (qkg l,.leaf (.ret [.cl (.bool (qb1 l))] []))
 | _,_=>none
def BOSteps:Nat->Ct:=tb 118 KOLess BOLess
def KOSorted:Ct:=fun
 | [.cl (.slg 1 l)],[]=>some (qkg l,.leaf (.ret [.cl (.bool (qb1 l))] []))
 | _,_=>none
def BOSorted:Nat->Ct:=tb 117 KOSteps BOSteps
def KSEqual:Ct:=fun
 | [.cl (.sli .u8 a),.cl (.sli .u8 b)],[]=>some (qr9 a,.leaf (.ret [.cl (.bool (qa5 a b))] []))
 | _,_=>none
def BSEqual:Nat->Ct:=tb 101 KOSorted BOSorted
def SEqF:List V->List Obj->Tree:=fun xs obs=>match xs,obs with
 | [.cl (.slg 3 a),.cl (.slg 3 b),.cl (.fn (.func 43) [] [])],[]=>.leaf (.ret [.cl (.bool (qq3 a b))] [])
 | _,_=>.fail
def xbgk:List V->List Obj->Bool:=fun xs obs=>match xs,obs with
 | [.cl (.slg 3 a),.cl (.slg 3 b),.cl (.fn (.func 43) [] [])],[]=>isNs a&&isNs b
 | _,_=>false
def xbbz(rk:Nat):List V->List Obj->Bool:=fun xs obs=>match xs,obs with
 | [.cl (.slg 3 a),.cl (.slg 3 b),.cl (.fn (.func 43) [] [])],[]=>xbi7 rk a&&isNs b
 | _,_=>false
def BEqF:Nat->Ct:=tb 71 KSEqual BSEqual
def SDSame:List V->List Obj->Tree:=fun xs obs=>match xs,obs with
 | [.cl (.agg a),.cl (.agg b)],[]=>.leaf (.ret [.cl (.bool (qfw a b))] [])
 | _,_=>.fail
def qv5:List V->List Obj->Bool:=fun xs obs=>match xs,obs with
 | [.cl (.agg a),.cl (.agg b)],[]=>isN a&&isN b
 | _,_=>false
def qed(rk:Nat):List V->List Obj->Bool:=fun xs obs=>match xs,obs with
 | [.cl (.agg a),.cl (.agg b)],[]=>isNr rk a&&isN b
 | _,_=>false
def BDSame:Nat->Ct:=tb 42 (ofS xbgk SEqF) BEqF
def SRSmall:List V->List Obj->Tree:=fun xs obs=>match xs,obs with
 | [.cl (.agg a),.cl (.int .i64 left)],[]=>.leaf (.ret [.cl (.int .i64 (qbz a left))] [])
 | _,_=>.fail
def qmh:List V->List Obj->Bool:=fun xs obs=>match xs,obs with
 | [.cl (.agg a),.cl (.int .i64 left)],[]=>isT a&&qot left
 | _,_=>false
def qgn(rk:Nat):List V->List Obj->Bool:=fun xs obs=>match xs,obs with
 | [.cl (.agg a),.cl (.int .i64 left)],[]=>isTr rk a&&qot left
 | _,_=>false
def BRSmall:Nat->Ct:=tb 43 (ofS qv5 SDSame) BDSame
def SDSize:List V->List Obj->Tree:=fun xs obs=>match xs,obs with
 | [.cl (.agg a),.cl (.int .i64 deep)],[]=>.leaf (.ret [.cl (.int .i64 (q1h a deep))] [])
 | _,_=>.fail
def qq8:List V->List Obj->Bool:=fun xs obs=>match xs,obs with
 | [.cl (.agg a),.cl (.int .i64 deep)],[]=>isS a&&qkd deep
 | _,_=>false
def qj5(rk:Nat):List V->List Obj->Bool:=fun xs obs=>match xs,obs with
 | [.cl (.agg a),.cl (.int .i64 deep)],[]=>isSr rk a&&qkd deep
 | _,_=>false
def BDSize:Nat->Ct:=tb 14 (ofS qmh SRSmall) BRSmall
def KDPut:Ct:=fun
 | [.nils,.cl (.int .i64 tag),.cl (.int .i64 n)],[]=>some (qke tag n,.leaf (.ret [.ref 0 0 ((qc6 tag n).length) true 1] [some ⟨.ints .u8 (qc6 tag n),false⟩]))
 | _,_=>none
def BDPut:Nat->Ct:=tb 74 (ofS qq8 SDSize) BDSize
def KRHead:Ct:=fun
 | [.cl (.int .i64 tag),.cl (.int .i64 n)],[]=>some (qke tag n,.leaf (.ret [.ref 0 0 ((qc6 tag n).length) true 1] [some ⟨.ints .u8 (qc6 tag n),false⟩]))
 | _,_=>none
def BRHead:Nat->Ct:=tb 100 KDPut BDPut
def KR1Join:Ct:=fun
 | [.cl (.slg 1 l)],[]=>some (qnb l,.leaf (.ret [.cl (.sli .u8 (qc9 l))] []))
 | _,_=>none
def BR1Join:Nat->Ct:=tb 79 KRHead BRHead
def SSGrow:List V->List Obj->Tree:=fun xs obs=>match xs,obs with
 | [.nils,.cl (.int .i64 n)],[]=>.leaf (.ret [.ref 0 0 0 true 1] [some ⟨.ints .u8 qbe,false⟩])
 | _,_=>.fail
def qv9:List V->List Obj->Bool:=fun xs obs=>match xs,obs with
 | [.nils,.cl (.int .i64 n)],[]=>xbfg n
 | _,_=>false
def BSGrow:Nat->Ct:=tb 81 KR1Join BR1Join
def KSConcat:Ct:=fun
 | [.cl (.slg 1 l)],[]=>some (qnb l,.leaf (.ret [.cl (.sli .u8 (qc9 l))] []))
 | _,_=>none
def BSConcat:Nat->Ct:=tb 119 (ofS qv9 SSGrow) BSGrow
def SDWrite:List V->List Obj->Tree:=fun xs obs=>match xs,obs with
 | [.cl (.agg a)],[]=>.leaf (.ret [.cl (.sli .u8 ((qi2 a).1)),.cl (.bool ((qi2 a).2))] [])
 | _,_=>.fail
def qmf:List V->List Obj->Bool:=fun xs obs=>match xs,obs with
 | [.cl (.agg a)],[]=>isW a
 | _,_=>false
def qgm(rk:Nat):List V->List Obj->Bool:=fun xs obs=>match xs,obs with
 | [.cl (.agg a)],[]=>isWr rk a
 | _,_=>false
def BDWrite:Nat->Ct:=tb 102 KSConcat BSConcat
def SRWrite:List V->List Obj->Tree:=fun xs obs=>match xs,obs with
 | [.cl (.agg a),.cl (.int .i64 deep)],[]=>.leaf (.ret [.cl (.sli .u8 ((qfd a deep).1)),.cl (.bool ((qfd a deep).2))] [])
 | _,_=>.fail
def qmi:List V->List Obj->Bool:=fun xs obs=>match xs,obs with
 | [.cl (.agg a),.cl (.int .i64 deep)],[]=>isS a&&qkd deep
 | _,_=>false
def qgo(rk:Nat):List V->List Obj->Bool:=fun xs obs=>match xs,obs with
 | [.cl (.agg a),.cl (.int .i64 deep)],[]=>isSr rk a&&qkd deep
 | _,_=>false
def BRWrite:Nat->Ct:=tb 75 (ofS qmf SDWrite) BDWrite
def SDBytes:List V->List Obj->Tree:=fun xs obs=>match xs,obs with
 | [.cl (.agg a)],[]=>.leaf (.ret [.cl (.sli .u8 ((qa0 a).1)),.cl (.int .i64 ((qa0 a).2))] [])
 | _,_=>.fail
def qhh:List V->List Obj->Bool:=fun xs obs=>match xs,obs with
 | [.cl (.agg a)],[]=>isS a
 | _,_=>false
def BDBytes:Nat->Ct:=tb 51 (ofS qmi SRWrite) BRWrite
def xbk7:List V->List Obj->Tree:=fun xs obs=>match xs,obs with
 | [.cl (.agg a)],[]=>.leaf (.ret [.cl (.bool (qou a))] [])
 | _,_=>.fail
def qnx:List V->List Obj->Bool:=fun xs obs=>match xs,obs with
 | [.cl (.agg a)],[]=>isS a
 | _,_=>false
def xbo1:Nat->Ct:=tb 50 (ofS qhh SDBytes) BDBytes
def SRBytes:List V->List Obj->Tree:=fun xs obs=>match xs,obs with
 | [.cl (.agg a)],[]=>.leaf (.ret [.cl (.sli .u8 ((qa0 a).1)),.cl (.int .i64 ((qa0 a).2))] [])
 | _,_=>.fail
def qhi:List V->List Obj->Bool:=fun xs obs=>match xs,obs with
 | [.cl (.agg a)],[]=>isS a
 | _,_=>false
def BRBytes:Nat->Ct:=tb 33 (ofS qnx xbk7) xbo1
def xbk8:List V->List Obj->Tree:=fun xs obs=>match xs,obs with
 | [.cl (.agg a)],[]=>.leaf (.ret [.cl (.bool (qou a))] [])
 | _,_=>.fail
def qny:List V->List Obj->Bool:=fun xs obs=>match xs,obs with
 | [.cl (.agg a)],[]=>isS a
 | _,_=>false
def xbo2:Nat->Ct:=tb 25 (ofS qhi SRBytes) BRBytes
def KTUSame:Ct:=fun
 | [.cl (.sli .u32 a),.cl (.sli .u32 b)],[]=>some (qkj a,.leaf (.ret [.cl (.bool (qa5 a b))] []))
 | _,_=>none
def BTUSame:Nat->Ct:=tb 68 (ofS qny xbk8) xbo2
def KTSEq:Ct:=fun
 | [.cl (.sli .u32 a),.cl (.sli .u32 b)],[]=>some (qkj a,.leaf (.ret [.cl (.bool (qa5 a b))] []))
 | _,_=>none
def BTSEq:Nat->Ct:=tb 28 KTUSame BTUSame
def KTOSame:Ct:=fun
 | [.cl (.sli .u32 a),.cl (.sli .u32 b)],[]=>some (qkj a,.leaf (.ret [.cl (.bool (qa5 a b))] []))
 | _,_=>none
def BTOSame:Nat->Ct:=tb 70 KTSEq BTSEq
def KOPut:Ct:=fun
 | [.nils,.cl (.int .u32 n)],[]=>some (u32Ok n,.leaf (.ret [.ref 0 0 ((qbi n).length) true 1] [some ⟨.ints .u8 (qbi n),false⟩]))
 | [.ref 0 0 m true 1,.cl (.int .u32 n)],[⟨.ints .u8 l,false⟩]=>some (u32Ok n&&qr9 l,.leaf (.ret [.ref 1 0 ((l++qbi n).length) true 1] [none,some ⟨.ints .u8 (l++qbi n),false⟩]))
 | _,_=>none
def BOPut:Nat->Ct:=tb 41 KTOSame BTOSame
def KR2Groups:Ct:=fun
 | [.cl (.int .u32 n)],[]=>some (u32Ok n,.leaf (.ret [.ref 0 0 ((qbi n).length) true 1] [some ⟨.ints .u8 (qbi n),false⟩]))
 | _,_=>none
def BR2Groups:Nat->Ct:=tb 110 KOPut BOPut
def KOBytes:Ct:=fun
 | [.cl (.sli .u32 o)],[]=>some (qsh o,.leaf (.ret [.cl (.sli .u8 (qal o))] []))
 | _,_=>none
def BOBytes:Nat->Ct:=tb 83 KR2Groups BR2Groups
def KR2Bytes:Ct:=fun
 | [.cl (.sli .u32 o)],[]=>some (qsh o,.leaf (.ret [.cl (.sli .u8 (qal o))] []))
 | _,_=>none
def BR2Bytes:Nat->Ct:=tb 89 KOBytes BOBytes
def KVPlain:Ct:=fun
 | [.cl (.agg [.int .i64 t,.sli .u8 b,.slg 3 k]),.cl (.int .i64 g)],[]=>some (isS [.int .i64 t,.sli .u8 b,.slg 3 k],.leaf (.ret [.cl (.sli .u8 ((qry g t b k).1)),.cl (.int .i64 ((qry g t b k).2))] []))
 | _,_=>none
def BVPlain:Nat->Ct:=tb 53 KR2Bytes BR2Bytes
def q73:Ct:=fun
 | [.cl (.agg [.int .i64 t,.sli .u8 b,.slg 3 k]),.cl (.int .i64 6),.cl (.fn (.func 96) [] [])],[]=>some (isS [.int .i64 t,.sli .u8 b,.slg 3 k],.leaf (.ret [.cl (.sli .u32 ((qf2 t b k).1)),.cl (.int .i64 ((qf2 t b k).2))] []))
 | _,_=>none
def q7x:Nat->Ct:=tb 92 KVPlain BVPlain
def xbk5:Ct:=fun
 | [.cl (.agg [.int .i64 t,.sli .u8 b,.slg 3 k])],[]=>some (isS [.int .i64 t,.sli .u8 b,.slg 3 k],.leaf (.ret [.cl (.sli .u32 ((qf2 t b k).1)),.cl (.int .i64 ((qf2 t b k).2))] []))
 | _,_=>none
def xbk1:Nat->Ct:=tb 95 q73 q7x
def q72:Ct:=fun
 | [.cl (.agg [.int .i64 t,.sli .u8 b,.slg 3 k])],[]=>some (isS [.int .i64 t,.sli .u8 b,.slg 3 k],.leaf (.ret [.cl (.sli .u32 ((qf2 t b k).1)),.cl (.int .i64 ((qf2 t b k).2))] []))
 | _,_=>none
def q7w:Nat->Ct:=tb 73 xbk5 xbk1
def KVMade:Ct:=fun
 | [.cl (.int .i64 g),.cl (.sli .u8 b)],[]=>some (qqx g b,.leaf (.ret [.cl (.agg [.int .i64 ((qcr g b).1),.sli .u8 ((qcr g b).2.1),.slg 3 qk3]),.cl (.int .i64 ((qcr g b).2.2))] []))
 | _,_=>none
def BVMade:Nat->Ct:=tb 69 q72 q7w
def KVId:Ct:=fun
 | [.cl (.sli .u32 o)],[]=>some (idOk o,.leaf (.ret [.cl (.agg [.int .i64 ((qcr 6 (qal o)).1),.sli .u8 ((qcr 6 (qal o)).2.1),.slg 3 qk3]),.cl (.int .i64 ((qcr 6 (qal o)).2.2))] []))
 | _,_=>none
def BVId:Nat->Ct:=tb 88 KVMade BVMade
def KVRMade:Ct:=fun
 | [.cl (.int .i64 g),.cl (.sli .u8 b)],[]=>some (qqx g b,.leaf (.ret [.cl (.agg [.int .i64 ((qcr g b).1),.sli .u8 ((qcr g b).2.1),.slg 3 qk3]),.cl (.int .i64 ((qcr g b).2.2))] []))
 | _,_=>none
def BVRMade:Nat->Ct:=tb 64 KVId BVId
def KVRId:Ct:=fun
 | [.cl (.sli .u32 o)],[]=>some (idOk o,.leaf (.ret [.cl (.agg [.int .i64 ((qcr 6 (qal o)).1),.sli .u8 ((qcr 6 (qal o)).2.1),.slg 3 qk3]),.cl (.int .i64 ((qcr 6 (qal o)).2.2))] []))
 | _,_=>none
def BVRId:Nat->Ct:=tb 52 KVRMade BVRMade
def KVClone:Ct:=fun
 | [.cl (.slg 3 l)],[]=>some (qfu l,.leaf (.ret [.cl (.slg 3 l)] []))
 | _,_=>none
def BVClone:Nat->Ct:=tb 27 KVRId BVRId
def KVSeq:Ct:=fun
 | [.cl (.slg 3 l)],[]=>some (qfu l,.leaf (.ret [.cl (.agg [.int .i64 48,.sli .u8 qbe,.slg 3 l])] []))
 | _,_=>none
def BVSeq:Nat->Ct:=tb 90 KVClone BVClone
def KVKids:Ct:=fun
 | [.cl (.agg [.int .i64 t,.sli .u8 b,.slg 3 k]),.cl (.int .i64 g)],[]=>some (qfu k,.leaf (.ret [.cl (.slg 3 ((qmp g t b k).1)),.cl (.int .i64 ((qmp g t b k).2))] []))
 | _,_=>none
def BVKids:Nat->Ct:=tb 65 KVSeq BVSeq
def KVRSeq:Ct:=fun
 | [.cl (.slg 3 l)],[]=>some (qfu l,.leaf (.ret [.cl (.agg [.int .i64 48,.sli .u8 qbe,.slg 3 l])] []))
 | _,_=>none
def BVRSeq:Nat->Ct:=tb 72 KVKids BVKids
def KVRSet:Ct:=fun
 | [.cl (.slg 3 l)],[]=>some (xbg2 l,.leaf (.ret [.cl (.agg [.int .i64 ((vSet l).1),.sli .u8 qbe,.slg 3 ((vSet l).2.1)]),.cl (.int .i64 ((vSet l).2.2))] []))
 | _,_=>none
def BVRSet:Nat->Ct:=tb 38 KVRSeq BVRSeq
def KTCmp4:Ct:=fun
 | [.cl (.agg [.int .i64 tp,.sli .u8 bp,.slg 3 kp,.sli .u8 wp]),.cl (.agg [.int .i64 tq,.sli .u8 bq,.slg 3 kq,.sli .u8 wq])],[]=>some (qad wp&&qad wq,.leaf (.ret [.cl (.int .i64 (qbk wp wq))] []))
 | _,_=>none
def BTCmp4:Nat->Ct:=tb 67 KVRSet BVRSet
def KTSwap4:Ct:=fun
 | [.ref 0 0 m true 4,.cl (.int .i64 a),.cl (.int .i64 b),.cl (.int .i64 n),.cl (.fn (.func 85) [] [])],[⟨.gen 4 l,false⟩]=>some (rows4 m l&&swOk m a b n,.leaf (.ret [] [some ⟨.gen 4 (swpC l a b n),false⟩]))
 | _,_=>none
def BTSwap4:Nat->Ct:=tb 85 KTCmp4 BTCmp4
def KTRot4:Ct:=fun
 | [.ref 0 0 m true 4,.cl (.int .i64 a),.cl (.int .i64 p),.cl (.int .i64 b),.cl (.fn (.func 85) [] [])],[⟨.gen 4 l,false⟩]=>some (rows4 m l&&qdq m a p b,.leaf (.ret [] [some ⟨.gen 4 (rotC l a p b),false⟩]))
 | _,_=>none
def BTRot4:Nat->Ct:=tb 138 KTSwap4 BTSwap4
def STSym4:List V->List Obj->Tree:=fun xs obs=>match xs,obs with
 | [.ref 0 0 m true 4,.cl (.int .i64 a),.cl (.int .i64 p),.cl (.int .i64 b),.cl (.fn (.func 85) [] [])],[⟨.gen 4 l,false⟩]=>.leaf (.ret [] [some ⟨.gen 4 (sym4 l a p b),false⟩])
 | _,_=>.fail
def qwb:List V->List Obj->Bool:=fun xs obs=>match xs,obs with
 | [.ref 0 0 m true 4,.cl (.int .i64 a),.cl (.int .i64 p),.cl (.int .i64 b),.cl (.fn (.func 85) [] [])],[⟨.gen 4 l,false⟩]=>rows4 m l&&(qdq m a p b&&half4 l a p b)
 | _,_=>false
def qv8(rk:Nat):List V->List Obj->Bool:=fun xs obs=>match xs,obs with
 | [.ref 0 0 m true 4,.cl (.int .i64 a),.cl (.int .i64 p),.cl (.int .i64 b),.cl (.fn (.func 85) [] [])],[⟨.gen 4 l,false⟩]=>rows4 m l&&(qdq m a p b&&(half4 l a p b&&decide ((b - a).toNat<rk)))
 | _,_=>false
def BTSym4:Nat->Ct:=tb 135 KTRot4 BTRot4
def KTIns4:Ct:=fun
 | [.ref 0 0 m true 4,.cl (.int .i64 a),.cl (.int .i64 b),.cl (.fn (.func 85) [] [])],[⟨.gen 4 l,false⟩]=>some (rows4 m l&&decide (0<=a/\a<=b/\b<=(m:Int)),.leaf (.ret [] [some ⟨.gen 4 (ins4 l a b),false⟩]))
 | _,_=>none
def BTIns4:Nat->Ct:=tb 125 (ofS qwb STSym4) BTSym4
def KTSta4:Ct:=fun
 | [.ref 0 0 m true 4,.cl (.int .i64 n),.cl (.fn (.func 85) [] [])],[⟨.gen 4 l,false⟩]=>some (rows4 m l&&decide (n=(m:Int)),.leaf (.ret [] [some ⟨.gen 4 (srt4 l),false⟩]))
 | _,_=>none
def BTSta4:Nat->Ct:=tb 124 KTIns4 BTIns4
def KTSort4:Ct:=fun
 | [.ref 0 0 m true 4,.cl (.fn (.func 85) [] [])],[⟨.gen 4 l,false⟩]=>some (rows4 m l,.leaf (.ret [] [some ⟨.gen 4 (srt4 l),false⟩]))
 | _,_=>none
def BTSort4:Nat->Ct:=tb 107 KTSta4 BTSta4
def KTCmp3:Ct:=fun
 | [.cl (.agg [.sli .u32 op,.slg 3 kp,.sli .u8 wp]),.cl (.agg [.sli .u32 oq,.slg 3 kq,.sli .u8 wq])],[]=>some (qad wp&&qad wq,.leaf (.ret [.cl (.int .i64 (qbk wp wq))] []))
 | _,_=>none
def BTCmp3:Nat->Ct:=tb 84 KTSort4 BTSort4
def KTSwap3:Ct:=fun
 | [.ref 0 0 m true 3,.cl (.int .i64 a),.cl (.int .i64 b),.cl (.int .i64 n),.cl (.fn (.func 62) [] [])],[⟨.gen 3 l,false⟩]=>some (rows3 m l&&swOk m a b n,.leaf (.ret [] [some ⟨.gen 3 (swpC l a b n),false⟩]))
 | _,_=>none
def BTSwap3:Nat->Ct:=tb 62 KTCmp3 BTCmp3
def KTRot3:Ct:=fun
 | [.ref 0 0 m true 3,.cl (.int .i64 a),.cl (.int .i64 p),.cl (.int .i64 b),.cl (.fn (.func 62) [] [])],[⟨.gen 3 l,false⟩]=>some (rows3 m l&&qdq m a p b,.leaf (.ret [] [some ⟨.gen 3 (rotC l a p b),false⟩]))
 | _,_=>none
def BTRot3:Nat->Ct:=tb 136 KTSwap3 BTSwap3
def STSym3:List V->List Obj->Tree:=fun xs obs=>match xs,obs with
 | [.ref 0 0 m true 3,.cl (.int .i64 a),.cl (.int .i64 p),.cl (.int .i64 b),.cl (.fn (.func 62) [] [])],[⟨.gen 3 l,false⟩]=>.leaf (.ret [] [some ⟨.gen 3 (sym3 l a p b),false⟩])
 | _,_=>.fail
def qwa:List V->List Obj->Bool:=fun xs obs=>match xs,obs with
 | [.ref 0 0 m true 3,.cl (.int .i64 a),.cl (.int .i64 p),.cl (.int .i64 b),.cl (.fn (.func 62) [] [])],[⟨.gen 3 l,false⟩]=>rows3 m l&&(qdq m a p b&&half3 l a p b)
 | _,_=>false
def qv7(rk:Nat):List V->List Obj->Bool:=fun xs obs=>match xs,obs with
 | [.ref 0 0 m true 3,.cl (.int .i64 a),.cl (.int .i64 p),.cl (.int .i64 b),.cl (.fn (.func 62) [] [])],[⟨.gen 3 l,false⟩]=>rows3 m l&&(qdq m a p b&&(half3 l a p b&&decide ((b - a).toNat<rk)))
 | _,_=>false
def BTSym3:Nat->Ct:=tb 126 KTRot3 BTRot3
def KTIns3:Ct:=fun
 | [.ref 0 0 m true 3,.cl (.int .i64 a),.cl (.int .i64 b),.cl (.fn (.func 62) [] [])],[⟨.gen 3 l,false⟩]=>some (rows3 m l&&decide (0<=a/\a<=b/\b<=(m:Int)),.leaf (.ret [] [some ⟨.gen 3 (ins3 l a b),false⟩]))
 | _,_=>none
def BTIns3:Nat->Ct:=tb 109 (ofS qwa STSym3) BTSym3
def KTSta3:Ct:=fun
 | [.ref 0 0 m true 3,.cl (.int .i64 n),.cl (.fn (.func 62) [] [])],[⟨.gen 3 l,false⟩]=>some (rows3 m l&&decide (n=(m:Int)),.leaf (.ret [] [some ⟨.gen 3 (srt3 l),false⟩]))
 | _,_=>none
def BTSta3:Nat->Ct:=tb 108 KTIns3 BTIns3
def KTSort3:Ct:=fun
 | [.ref 0 0 m true 3,.cl (.fn (.func 62) [] [])],[⟨.gen 3 l,false⟩]=>some (rows3 m l,.leaf (.ret [] [some ⟨.gen 3 (srt3 l),false⟩]))
 | _,_=>none
def BTSort3:Nat->Ct:=tb 86 KTSta3 BTSta3
def KTClone:Ct:=fun
 | [.cl (.sli .u32 o)],[]=>some (qkj o,.leaf (.ret [.cl (.sli .u32 o)] []))
 | _,_=>none
def BTClone:Nat->Ct:=tb 61 KTSort3 BTSort3
def KTTw1:Ct:=fun
 | [.cl (.agg [.sli .u32 o,.slg 3 k]),.ptr 0 0 0],[⟨.var [.cl (.sli .u32 p),.cl (.slg 3 q)],false⟩]=>some (qkj p,.leaf (.ret [.cl (.bool (qa5 p o))] [some ⟨.var [.cl (.sli .u32 p),.cl (.slg 3 q)],false⟩]))
 | _,_=>none
def BTTw1:Nat->Ct:=tb 58 KTClone BTClone
def KTOn1:Ct:=fun
 | [.cl (.agg [.sli .u32 o,.slg 3 k]),.ptr 0 0 0],[⟨.var [.cl (.sli .u32 p)],false⟩]=>some (qkj o,.leaf (.ret [.cl (.bool (qa5 o p))] [some ⟨.var [.cl (.sli .u32 p)],false⟩]))
 | _,_=>none
def BTOn1:Nat->Ct:=tb 55 KTTw1 BTTw1
def KTIdx:Ct:=fun
 | [.cl (.slg 2 l),.fn (.func 55) [] [.ptr 0 0 0]],[⟨.var [.cl (.sli .u32 p),.cl (.slg 3 q)],false⟩]=>some (qbh l&&qkj p,.leaf (.ret [.cl (.int .i64 (idxA p l))] [some ⟨.var [.cl (.sli .u32 p),.cl (.slg 3 q)],false⟩]))
 | [.cl (.slg 2 l),.fn (.func 49) [] [.ptr 0 0 0]],[⟨.var [.cl (.sli .u32 p)],false⟩]=>some (qbh l,.leaf (.ret [.cl (.int .i64 (idxA p l))] [some ⟨.var [.cl (.sli .u32 p)],false⟩]))
 | _,_=>none
def BTIdx:Nat->Ct:=tb 49 KTOn1 BTOn1
def KTCon:Ct:=fun
 | [.cl (.slg 2 l),.fn (.func 55) [] [.ptr 0 0 0]],[⟨.var [.cl (.sli .u32 p),.cl (.slg 3 q)],false⟩]=>some (qbh l&&qkj p,.leaf (.ret [.cl (.bool (hasA p l))] [some ⟨.var [.cl (.sli .u32 p),.cl (.slg 3 q)],false⟩]))
 | _,_=>none
def BTCon:Nat->Ct:=tb 48 KTIdx BTIdx
def KTTwice:Ct:=fun
 | [.cl (.slg 2 l)],[]=>some (qbh l,.leaf (.ret [.cl (.bool (twoA l))] []))
 | _,_=>none
def BTTwice:Nat->Ct:=tb 54 KTCon BTCon
def KTOrd1:Ct:=fun
 | [.cl (.agg [.int .i64 t,.sli .u8 b,.slg 3 k])],[]=>some (true,.leaf (.ret [.cl (.agg [.int .i64 t,.sli .u8 b,.slg 3 k]),.cl (.bool true)] []))
 | _,_=>none
def BTOrd1:Nat->Ct:=tb 29 KTTwice BTTwice
def xbvj:Ct:=fun
 | [.cl (.slg 3 l),.cl (.fn (.func 57) [] [])],[]=>some (xbuu l,.leaf (.ret [.cl (.slg 4 ((itV l).1)),.cl (.bool ((itV l).2))] []))
 | _,_=>none
def xbvd:Nat->Ct:=tb 57 KTOrd1 BTOrd1
def xbvl:Ct:=fun
 | [.cl (.slg 4 l)],[]=>some (rows4 l.length l,.leaf (.ret [.cl (.slg 3 (thV l))] []))
 | _,_=>none
def xbvf:Nat->Ct:=tb 56 xbvj xbvd
def xbvk:Ct:=fun
 | [.cl (.slg 3 l)],[]=>some (rows3 l.length l,.leaf (.ret [.cl (.slg 2 (thA l))] []))
 | _,_=>none
def xbve:Nat->Ct:=tb 59 xbvl xbvf
def KTOrd:Ct:=fun
 | [.cl (.agg [.sli .u32 o,.slg 3 k])],[]=>some (at1Ok o k,.leaf (.ret [.cl (.agg [.sli .u32 o,.slg 3 (ordV k)]),.cl (.bool (xbm2 o k))] []))
 | _,_=>none
def BTOrd:Nat->Ct:=tb 35 xbvk xbve
def KTNd:Ct:=fun
 | [.cl (.agg [.sli .u32 o,.slg 3 k])],[]=>some (at1Ok o k,.leaf (.ret [.cl (.agg [.int .i64 48,.sli .u8 qbe,.slg 3 (qr5 o k)]),.cl (.bool (xbox o))] []))
 | _,_=>none
def BTNd:Nat->Ct:=tb 30 KTOrd BTOrd
def xbvi:Ct:=fun
 | [.cl (.slg 2 l),.cl (.fn (.func 32) [] [])],[]=>some (qbh l,.leaf (.ret [.cl (.slg 3 ((itA l).1)),.cl (.bool ((itA l).2))] []))
 | _,_=>none
def xbvc:Nat->Ct:=tb 32 KTNd BTNd
def KTBox:Ct:=fun
 | [.cl (.slg 2 l),.cl (.int .i64 g)],[]=>some (qbh l,.leaf (.ret [.cl (.agg [.int .i64 g,.sli .u8 qbe,.slg 3 (xblc l)])] []))
 | _,_=>none
def BTBox:Nat->Ct:=tb 31 xbvi xbvc
def KTMake:Ct:=fun
 | [.cl (.slg 2 l)],[]=>some (qbh l,.leaf (.ret [.cl (.slg 2 ((qfh l).1)),.cl (.int .i64 ((qfh l).2))] []))
 | _,_=>none
def BTMake:Nat->Ct:=tb 34 KTBox BTBox
def KTSa1:Ct:=fun
 | [.cl (.agg [.sli .u32 o,.slg 3 k]),.cl (.agg [.sli .u32 p,.slg 3 q])],[]=>some (at1Ok o k&&at1Ok p q,.leaf (.ret [.cl (.bool (qhv [mkA o k] [mkA p q]))] []))
 | _,_=>none
def BTSa1:Nat->Ct:=tb 8 KTMake BTMake
def xbvh:Ct:=fun
 | [.cl (.slg 2 a),.cl (.slg 2 b),.cl (.fn (.func 40) [] [])],[]=>some (qbh a&&qbh b,.leaf (.ret [.cl (.bool (qhv a b))] []))
 | _,_=>none
def xbvb:Nat->Ct:=tb 40 KTSa1 BTSa1
def KTSame:Ct:=fun
 | [.cl (.slg 2 a),.cl (.slg 2 b)],[]=>some (qbh a&&qbh b,.leaf (.ret [.cl (.bool (qhv a b))] []))
 | _,_=>none
def BTSame:Nat->Ct:=tb 39 xbvh xbvb
def KTFit:Ct:=fun
 | [.cl (.slg 2 l)],[]=>some (qbh l,.leaf (.ret [.cl (.bool (q0o l))] []))
 | _,_=>none
def BTFit:Nat->Ct:=tb 13 KTSame BTSame
def KTTag:Ct:=fun
 | [.cl (.int .i64 g)],[]=>some (true,.leaf (.ret [.cl (.bool (q8s g))] []))
 | _,_=>none
def BTTag:Nat->Ct:=tb 10 KTFit BTFit
def KTNode:Ct:=fun
 | [.cl (.slg 2 l),.cl (.int .i64 g)],[]=>some (qbh l,.leaf (.ret [.cl (.agg [.int .i64 ((qbx l g).1),.sli .u8 qbe,.slg 3 ((qbx l g).2.1)]),.cl (.int .i64 ((qbx l g).2.2))] []))
 | _,_=>none
def BTNode:Nat->Ct:=tb 44 KTTag BTTag
def KTAttr:Ct:=fun
 | [.cl (.agg [.int .i64 t,.sli .u8 b,.slg 3 k])],[]=>some (isS [.int .i64 t,.sli .u8 b,.slg 3 k],.leaf (.ret [.cl (.agg [.sli .u32 ((qka t b k).1),.slg 3 ((qka t b k).2.1)]),.cl (.bool ((qka t b k).2.2))] []))
 | _,_=>none
def BTAttr:Nat->Ct:=tb 15 KTNode BTNode
def KTRead:Ct:=fun
 | [.cl (.agg [.int .i64 t,.sli .u8 b,.slg 3 k]),.cl (.int .i64 g)],[]=>some (ndSm t b k,.leaf (.ret [.cl (.slg 2 ((qhy g t b k).1)),.cl (.int .i64 ((qhy g t b k).2))] []))
 | _,_=>none
def BTRead:Nat->Ct:=tb 46 KTAttr BTAttr
def KTOne:Ct:=fun
 | [.cl (.slg 2 l),.cl (.sli .u32 o)],[]=>some (qbh l,.leaf (.ret [.cl (.agg [.int .i64 ((qhq l o).1.1),.sli .u8 ((qhq l o).1.2.1),.slg 3 ((qhq l o).1.2.2)]),.cl (.int .i64 ((qhq l o).2))] []))
 | _,_=>none
def BTOne:Nat->Ct:=tb 17 KTRead BTRead
def KTText:Ct:=fun
 | [.cl (.slg 2 l)],[]=>some (qbh l,.leaf (.ret [.cl (.sli .u8 ((qhz l).1)),.cl (.int .i64 ((qhz l).2))] []))
 | _,_=>none
def BTText:Nat->Ct:=tb 19 KTOne BTOne
def KUNd:Ct:=fun
 | [.cl (.agg [.sli .u32 o,.slg 3 k])],[]=>some (at1Ok o k,.leaf (.ret [.cl (.agg [.int .i64 ((qpj o k).1),.sli .u8 qbe,.slg 3 ((qpj o k).2.1)]),.cl (.int .i64 ((qpj o k).2.2))] []))
 | _,_=>none
def BUNd:Nat->Ct:=tb 21 KTText BTText
def KUWhole:Ct:=fun
 | [.cl (.slg 2 l)],[]=>some (qbh l,.leaf (.ret [.cl (.agg [.int .i64 ((qki l).1),.sli .u8 qbe,.slg 3 ((qki l).2.1)]),.cl (.int .i64 ((qki l).2.2))] []))
 | _,_=>none
def BUWhole:Nat->Ct:=tb 66 KUNd BUNd
def KUAttrs:Ct:=fun
 | [.cl (.agg [.int .i64 t,.sli .u8 b,.slg 3 k])],[]=>some (qqa k,.leaf (.ret [.cl (.slg 2 (qyw k))] []))
 | _,_=>none
def BUAttrs:Nat->Ct:=tb 36 KUWhole BUWhole
def KUMake:Ct:=fun
 | [.cl (.slg 2 l)],[]=>some (qbh l,.leaf (.ret [.cl (.slg 2 ((qfh l).1)),.cl (.int .i64 ((qfh l).2))] []))
 | _,_=>none
def BUMake:Nat->Ct:=tb 37 KUAttrs BUAttrs
def KUSame:Ct:=fun
 | [.cl (.slg 2 a),.cl (.slg 2 b)],[]=>some (qbh a&&qbh b,.leaf (.ret [.cl (.bool (qhv a b))] []))
 | _,_=>none
def BUSame:Nat->Ct:=tb 9 KUMake BUMake
def KUFit:Ct:=fun
 | [.cl (.slg 2 l)],[]=>some (qbh l,.leaf (.ret [.cl (.bool (q0o l))] []))
 | _,_=>none
def BUFit:Nat->Ct:=tb 12 KUSame BUSame
def KUTag:Ct:=fun
 | [.cl (.int .i64 g)],[]=>some (true,.leaf (.ret [.cl (.bool (q8s g))] []))
 | _,_=>none
def BUTag:Nat->Ct:=tb 11 KUFit BUFit
def KUNode:Ct:=fun
 | [.cl (.slg 2 l),.cl (.int .i64 g)],[]=>some (qbh l,.leaf (.ret [.cl (.agg [.int .i64 ((qbx l g).1),.sli .u8 qbe,.slg 3 ((qbx l g).2.1)]),.cl (.int .i64 ((qbx l g).2.2))] []))
 | _,_=>none
def BUNode:Nat->Ct:=tb 45 KUTag BUTag
def KUForm:Ct:=fun
 | [.cl (.agg [.int .i64 t,.sli .u8 b,.slg 3 k])],[]=>some (isS [.int .i64 t,.sli .u8 b,.slg 3 k],.leaf (.ret [.cl (.bool (xbu8 k))] []))
 | _,_=>none
def BUForm:Nat->Ct:=tb 16 KUNode BUNode
def KURead:Ct:=fun
 | [.cl (.agg [.int .i64 t,.sli .u8 b,.slg 3 k]),.cl (.int .i64 g)],[]=>some (ndSm t b k,.leaf (.ret [.cl (.slg 2 ((qhy g t b k).1)),.cl (.int .i64 ((qhy g t b k).2))] []))
 | _,_=>none
def BURead:Nat->Ct:=tb 47 KUForm BUForm
def KUOne:Ct:=fun
 | [.cl (.slg 2 l),.cl (.sli .u32 o)],[]=>some (qbh l,.leaf (.ret [.cl (.agg [.int .i64 ((qhq l o).1.1),.sli .u8 ((qhq l o).1.2.1),.slg 3 ((qhq l o).1.2.2)]),.cl (.int .i64 ((qhq l o).2))] []))
 | _,_=>none
def BUOne:Nat->Ct:=tb 18 KURead BURead
def KUText:Ct:=fun
 | [.cl (.slg 2 l)],[]=>some (qbh l,.leaf (.ret [.cl (.sli .u8 ((qhz l).1)),.cl (.int .i64 ((qhz l).2))] []))
 | _,_=>none
def BUText:Nat->Ct:=tb 20 KUOne BUOne
def KUSmall:Ct:=fun
 | [.cl (.slg 2 l),.cl (.int .i64 n)],[]=>some (q6c l&&smOk l n,.leaf (.ret [.cl (.int .i64 (qsk l n))] []))
 | _,_=>none
def BUSmall:Nat->Ct:=tb 22 KUText BUText
def KWASmall:Ct:=fun
 | [.cl (.slg 2 l)],[]=>some (q6c l,.leaf (.ret [.cl (.bool (xbow l))] []))
 | _,_=>none
def BWASmall:Nat->Ct:=tb 26 KUSmall BUSmall
def KWAAwake:Ct:=fun
 | [],[]=>some (true,.leaf (.ret [.cl (.bool true)] []))
 | _,_=>none
def BWAAwake:Nat->Ct:=tb 6 KWASmall BWASmall
def SWAReads:List V->List Obj->Tree:=fun xs obs=>match xs,obs with
 | [.cl (.slg 2 l),.cl (.agg [.int .i64 t,.sli .u8 b,.slg 3 k]),.cl (.int .i64 g),.cl (.sli .u32 o)],[]=>.leaf (.ret [.cl (.bool true)] [])
 | _,_=>.fail
def qra:List V->List Obj->Bool:=fun xs obs=>match xs,obs with
 | [.cl (.slg 2 l),.cl (.agg [.int .i64 t,.sli .u8 b,.slg 3 k]),.cl (.int .i64 g),.cl (.sli .u32 o)],[]=>q6c l&&(isT [.int .i64 t,.sli .u8 b,.slg 3 k]&&u32Any o)
 | _,_=>false
def BWAReads:Nat->Ct:=tb 7 KWAAwake BWAAwake
end
end Go.Proofs.YtoiikagnjcjccaaGreatDoorA
