/-
 More operations that make no memory and change none: the machine comes to what the reader says. Conditions: none.
-/
import Derived.Test.YtoiikagnjcjccaaGreatDoorK1a
import Derived.Laws.BytesString
import Derived.Laws.IdiomCopy
import Derived.Deep.Upon
import Derived.Lib.ConvBytes
set_option linter.unusedVariables false
set_option linter.unusedSimpArgs false
set_option maxRecDepth 100000
namespace Go.Proofs.YtoiikagnjcjccaaGreatDoorA
section
variable {P:Program} {w:World} {Im:Nat->Prop} {ρ:Nat->Loc} {S:Nat->Option Sh}
theorem xbo7{s:ByteArray}{n:Int}(h:n.toNat<s.size): ∃b,s[n.toNat]? =some b/\(b.toNat:Int)=bget s n:=by
 refine⟨s[n.toNat],by simp[h], ?_⟩;unfold bget;have h':n.toNat<s.data.toList.length:=by simpa using h
 rw[zae h'];simp;rfl
theorem xbb4{β:Type}{t:TypeId}{x y:V}{a b:Value}{k:V->Option β}{r:β}(h:q04 P t x y k=some r)(hx:VRep w Im ρ S x a)(hy:VRep w Im ρ S y b):
  Pure P w Im ρ S k r (Instr.index t a b):=by
 unfold q04 at h;split at h
 ·rename_i ki n;obtain rfl:=hy.int;split at h
  ·rename_i s hk;obtain rfl:=hx.str;obtain⟨h0,h1,h2,h⟩:=qdy h;obtain⟨b,hb,hb'⟩:=xbo7 h2;refine⟨_,_,h,.ofInt _ _, ?_⟩;simp[Instr.index,asIntOf,underlying,q09 hk,h0,hb,hb']
  ·rename_i m e m' ki' l hk;split at h
   ·rename_i kk hke;replace h:=qaa h;obtain⟨hc,h⟩:=h;simp only[zab] at hc;obtain rfl:=qag.1 hc.1;have h1s:=qag.1 hc.2;obtain⟨h0,h1,h2,h⟩:=qdy h;obtain⟨i,hi,his⟩:=qb5 (P:=P) (e:=e) (by omega);split at h
    ·rename_i z hz
     cases hx.closed with
     | aggi _ _ _ hl=>
      refine⟨_,_,h,.ofInt _ _, ?_⟩;have:(part e (l.map (Value.int ki')).toArray (n.toNat*i.size)).run P w=.ok (.int ki' z) w:=qrh (by rw[hke];rfl) (by rw[his,h1s];simp[hz]);simp[Instr.index,asIntOf,underlying,qos hk,h0,h1,sizeOf,typeInfo,hi,this]
    ·cases h
   ·cases h
  ·rename_i m e m' es l hk;replace h:=qaa h;obtain⟨hc,h⟩:=h;simp only[zab] at hc;obtain rfl:=qag.1 hc.1;obtain rfl:=qag.1 hc.2;obtain⟨h0,h1,h2,h⟩:=qdy h;split at h
   ·rename_i l' fs hz hke
    cases hx.closed with
    | agga _ _ _ vs g1 g2 g3 g5 g4=>
     obtain⟨i,hi⟩:=xbiz (qfn hke);have hel:(cell1 (.agg l')).length=qaq P e:=g2 _ (zac hz);have hlen:(l.flatMap cell1).length=l.length*qaq P e:=qbr g2;have his:i.size=qaq P e:=by simp[qaq,hi]
     have hlt:n.toNat<l.length:=(zad.1 hz).1;have hle:n.toNat*qaq P e+qaq P e<=vs.length:=by rw[g3,hlen];have:=zce (qaq P e) (show n.toNat+1<=l.length by omega);rw[zcu] at this;exact this
     refine⟨_,.agg ((vs.drop (n.toNat*qaq P e)).take (qaq P e)).toArray,h,.cl _ _ (.agg l' _ ?_ (fun v hv=>g5 v (zbi (zba hv))) fun j c v hj hv=> ?_), ?_⟩
     ·show _=(cell1 (.agg l')).length;rw[hel];simp;omega
     ·have hje:j<qaq P e:=by rw[<- hel];exact(zad.1 hj).1
      rw[zbm hje,zbv] at hv;exact g4 (n.toNat*qaq P e+j) c v (by rw[qm3 j g2 hz hje];exact hj) hv
     ·have:(part e vs.toArray (n.toNat*i.size)).run P w=.ok (.agg ((vs.drop (n.toNat*qaq P e)).take (qaq P e)).toArray) w:=by rw[qrg (qfn hke) (qi7 hke w),his];congr 2;simp[List.extract_eq_take_drop]
      simp[Instr.index,asIntOf,underlying,qos hk,h0,h1,sizeOf,typeInfo,hi,this]
   ·cases h
  ·cases h
 ·cases h
theorem q4k{β:Type}{src dst:TypeId}{x:V}{a:Value}{k:V->Option β}{r:β}(h:xbhs P src dst x k=some r)(hx:VRep w Im ρ S x a):
  Pure P w Im ρ S k r (convert src dst a):=by
 unfold xbhs at h;split at h
 ·rename_i ki kj n hk;obtain rfl:=hx.int;replace h:=qaa h;obtain⟨hs,h⟩:=h;obtain⟨d,hd⟩:=zbn.1 hs;exact⟨_,_,h,.ofInt _ _,by simp[convert,underlying,hd,xbfm hk,Conv.intToInt]⟩
 ·rename_i b hk;obtain rfl:=hx.str;replace h:=qaa h;obtain⟨hs,h⟩:=h;obtain⟨d,hd⟩:=zbn.1 hs;exact⟨_,_,h,.ofStr _,by simp[convert,underlying,hd,q09 hk]⟩
 ·cases h
theorem xbdh(l:List Int): ∀acc:ByteArray,l.foldl (fun r n=>r.push (UInt8.ofNat n.toNat)) acc=⟨acc.data++(l.map fun n=>UInt8.ofNat n.toNat).toArray⟩:=by
 induction l with
 | nil=>intro acc;simp
 | cons n r ih=>
  intro acc;simp only[zc8];rw[ih];simp[ByteArray.push]
theorem xbok(l:List Int):l.foldl (fun r n=>r.push (UInt8.ofNat n.toNat)) ByteArray.empty=xbeo l:=by rw[xbdh];show(⟨#[]++_⟩:ByteArray)=_;simp[xbeo]
theorem xbb6{β:Type}{src dst:TypeId}{H:Heap}{x:V}{a:Value}{k:V->Option β}{r:β}(hob: ∀p o,qaj H p=some o->ORep w Im ρ (shOf H) o.row (ρ p))(hd:kd P dst=.str)(h:qox P H src x k=some r)(hx:VRep w Im ρ (shOf H) x a):Pure P w Im ρ (shOf H) k r (convert src dst a):=by
 unfold qox at h;split at h
 ·rename_i e hk;split at h
  ·rename_i hke;have fin: ∀(l:List Int) (ad:Addr) (len cap:Nat),l.length=len->(∀j n,l[j]? =some n->w.cell? (ad.add j)=some (.int .u8 n))->
     (convert src dst (.slice (some ad) len cap)).run P w=.ok (.string (xbeo l)) w:=fun l ad len cap hl hc=>by
    rw[run_convert_bytes_string w src dst e _ _ _ (qcd hk) (xbfm hke) (q09 hd)];rw[run_bytesToString w ad len cap l (by
     have:=run_loadCells_list (P:=P) (w:=w) ad (l.map (Value.int .u8)) fun j v hv=>by
      rw[zaj] at hv
      cases hj:l[j]? with
      | none=>simp[hj] at hv
      | some n=>simp[hj] at hv;subst hv;exact hc j n hj
     rw[zam,hl] at this;exact this)]
    rw[xbok]
   have fin0: ∀(len cap:Nat),(convert src dst (.slice none len cap)).run P w=.ok (.string (xbeo [])) w:=fun len cap=>by rw[run_convert_bytes_string w src dst e _ _ _ (qcd hk) (xbfm hke) (q09 hd)];simp[Conv.bytesToString,xbeo];rfl
   split at h
   ·cases hx;exact⟨_,_,h,.ofStr _,fin0 0 0⟩
   ·split at h
    ·rename_i l hrow;have hcl: ∃c:CV,qbp P H 1 src x=some c/\c=.sli .u8 l\/True:=⟨.nili,.inr trivial⟩;refine⟨_,_,h,.ofStr _, ?_⟩;unfold xbnd at hrow;split at hrow
     ·simp at hrow
     ·rename_i p o len tip es _;split at hrow
      ·rename_i ob hp;have hS:shOf H p=some (shp ob):=by simp[shOf,hp]
       have hO:=hob p ob hp;have hcv:(ob.row.window o len tip).bind Rw.cv=some (.sli .u8 l):=by rw[hrow];rfl
       cases hx with
       | refN _ _ _ _ _ _ _ h0 _ _=>rw[hS] at h0;cases h0
       | refV _ s _ _ h1 h2 h3 h4=>
        rw[hS] at h1;simp only[zaa] at h1;subst h1;rw[h2] at hO;have hl0:l=[]:=by
         cases hr:ob.row with
         | ints kk l'=>
          rw[hr] at hrow;have:l'=[]:=by have:=hO.2.1;rw[hr] at this;simpa [Rw.len] using this
          subst this;simp[Rw.window,xbd7] at hrow;exact hrow.2
         | arri n kk l'=>rw[hr] at hO;cases hO.1
         | gen e' l'=>rw[hr] at hrow;simp[Rw.window] at hrow
         | arrg n e' l'=>rw[hr] at hrow;simp[Rw.window] at hrow
         | var l'=>rw[hr] at hrow;simp[Rw.window] at hrow
        subst hl0;exact fin0 0 0
       | ref _ _ _ _ _ s b base lim ad cap h1 h2 h3 h4 h5 h6 h7 h8=>
        rw[hS] at h1;simp only[zaa] at h1;subst h1;rw[h2] at hO;have:=xbjx (ad:=ad) (Im':=fun b'=>Im b'\/b'=b) hO (fun _ h=>.inl h) (.inr rfl) hcv h4 h5 h6 (fun hcap=>by have h9:=h7 hcap;rw[<- h3] at h9;exact h9)
        cases this with
        | sli _ _ _ _ _ g1 g2 g3=>
         refine fin l ad len cap g1 fun j n hj=> ?_;obtain⟨ad',e',_,hc⟩:=g3 j n hj;simp only[zaa] at e';subst e';exact hc
      ·cases hrow
     ·rename_i kk l' _;simp only[zaa,Rw.ints.injEq] at hrow;obtain⟨rfl,rfl⟩:=hrow
      cases hx.closed with
      | sli _ _ a len cap g1 g2 g3=>
       cases a with
       | none=>
        have h0:l'=[]:=by
         cases l' with
         | nil=>rfl
         | cons n q=>obtain⟨ad,e',_⟩:=g3 0 n rfl;cases e'
        subst h0;exact fin0 _ _
       | some ad=>
        refine fin l' ad len cap g1 fun j n hj=> ?_;obtain⟨ad',e',_,hc⟩:=g3 j n hj;simp only[zaa] at e';subst e';exact hc
     ·simp at hrow
     ·cases hrow
    ·cases h
  ·cases h
 ·cases h
theorem xbb3{t:TypeId}{x:V}{a:Value}(hc:concr P t=true)(hx:VRep w Im ρ S x a):VRep w Im ρ S (xbbe t x) (.iface t a)/\(Instr.makeInterface t a).run P w=.ok (.iface t a) w:=by
 constructor
 ·unfold xbbe;split
  ·exact .cl _ _ (.iface t _ _ hx.closed)
  ·exact .iface t _ _ hx
 ·unfold concr at hc
  cases hu:P.underlying t with
  | none=>rw[hu] at hc;cases hc
  | some d=>rw[hu] at hc;cases d<;>simp_all [Instr.makeInterface,underlying]
theorem xbso{f:Fn}{a b:List V}{va vb:List Value}(h1:va.length=a.length)(h2:vb.length=b.length)(ha: ∀(j:Nat) (c:V) (v:Value),a[j]? =some c->va[j]? =some v->VRep w Im ρ S c v)(hb: ∀(j:Nat) (c:V) (v:Value),b[j]? =some c->vb[j]? =some v->VRep w Im ρ S c v):VRep w Im ρ S (mkFn f a b) (.func f va.toArray vb.toArray):=by
 unfold mkFn;split
 ·rename_i x y hx hy;have e1:=qfj hx;have e2:=qfj hy;subst e1 e2;exact .cl _ _ (.fn f x y va vb (by simpa using h1) (by simpa using h2) (fun j c v hj hv=>(ha j (.cl c) v (by simp[hj]) hv).closed) fun j c v hj hv=>(hb j (.cl c) v (by simp[hj]) hv).closed)
 ·exact .fn f a b va vb h1 h2 ha hb
theorem q7d{β:Type}{asserted xt:TypeId}{ok:Bool}{x:V}{a:Value}{k:V->Option β}{r:β}(h:qpw P asserted ok x k=some r)(hx:VRep w Im ρ S x a):
  Pure P w Im ρ S k r (Instr.typeAssert a xt asserted ok):=by
 have run1: ∀(t:TypeId) (v:Value),concr P asserted=true->t=asserted->(Instr.typeAssert (.iface t v) xt asserted ok).run P w=.ok (if ok then .tuple #[v,.bool true] else v) w:=fun t v hc ht=>by
  unfold concr at hc;subst ht
  cases hu:P.underlying t with
  | none=>rw[hu] at hc;cases hc
  | some d=>
   rw[hu] at hc;cases d<;>first|(cases hc;done)|(cases ok<;>simp[Instr.typeAssert,underlying,hu])
 have run2: ∀(t:TypeId) (v z:Value),concr P asserted=true->t≠asserted->(zeroValue asserted).run P w=.ok z w->ok=true->(Instr.typeAssert (.iface t v) xt asserted ok).run P w=.ok (.tuple #[z,.bool false]) w:=fun t v z hc ht hz hok=>by
  unfold concr at hc
  cases hu:P.underlying asserted with
  | none=>rw[hu] at hc;cases hc
  | some d=>
   subst hok;rw[hu] at hc;cases d<;>first|(cases hc;done)|simp[Instr.typeAssert,underlying,hu,ht,hz]
 have tup: ∀(c:V) (v:Value) (b:Bool),VRep w Im ρ S c v->VRep w Im ρ S (.tup [c,.cl (.bool b)]) (.tuple #[v,.bool b]):=fun c v b hc=>.tup _ [v,.bool b] rfl fun j d y hj hy=>by
  match j with
  | 0=>simp at hj hy;subst hj hy;exact hc
  | 1=>simp at hj hy;subst hj hy;exact .ofBool b
  | j+2=>simp at hj
 have both: ∀(t:TypeId) (c:V) (v:Value),a=.iface t v->VRep w Im ρ S c v->concr P asserted=true->
   cond (Nat.beq t asserted) (k (cond ok (.tup [c,.cl (.bool true)]) c)) (cond ok (match q7t P asserted with|some z=>k (.tup [z,.cl (.bool false)])|none=>none) none)=some r->
   Pure P w Im ρ S k r (Instr.typeAssert a xt asserted ok):=fun t c v ha hc hcon h=>by
  subst ha
  cases hb:Nat.beq t asserted with
  | true=>
   rw[hb] at h;simp only[cond_true] at h;have ht:=qag.1 hb
   cases ok with
   | true=>exact⟨_,_,h,tup c v true hc,run1 t v hcon ht⟩
   | false=>exact⟨_,_,h,hc,run1 t v hcon ht⟩
  | false=>
   rw[hb] at h;simp only[cond_false] at h;have ht:=qa7 hb;replace h:=qaa h;obtain⟨hok,h⟩:=h;split at h
   ·rename_i z hz;obtain⟨val,hv,hr⟩:=qr3 (w:=w) (Im:=Im) (ρ:=ρ) (S:=S) hz;exact⟨_,_,h,tup z val false hv,run2 t v val hcon ht hr hok⟩
   ·cases h
 unfold qpw at h;replace h:=qaa h;obtain⟨hcon,h⟩:=h;split at h
 ·rename_i t c
  cases hx.closed with
  | iface _ _ v hv=>exact both t (.cl c) v rfl (.cl _ _ hv) hcon h
 ·rename_i t c
  cases hx with
  | iface _ _ v hv=>exact both t c v rfl hv hcon h
 ·cases h
theorem xbm8{β:Type}{ts:Array TypeId}{ty:TypeId}{l:List V}{as:List Value}{k:V->Option β}{r:β}(h:lenK P ts[0]? l k=some r)(hl:as.length=l.length)(hx: ∀(j:Nat) (c:V) (v:Value),l[j]? =some c->as[j]? =some v->VRep w Im ρ S c v):Pure P w Im ρ S k r (Builtin.len_ ts ty as.toArray):=by
 have one: ∀v,l=[v]->∃x,as=[x]/\VRep w Im ρ S v x:=by
  rintro v rfl
  cases as with
  | nil=>simp at hl
  | cons x q=>cases q with
   | nil=>exact⟨x,rfl,hx 0 v x rfl rfl⟩
   | cons=>simp at hl
 unfold lenK at h
 cases ht:ts[0]? with
 | none=>rw[ht] at h;simp at h
 | some t=>
  rw[ht] at h;simp only[zap] at h;split at h
  ·rename_i b hk;simp only[zaa] at hk;obtain⟨x,rfl,hr⟩:=one _ rfl;obtain rfl:=hr.str;exact⟨_,_,h,.ofInt _ _,by simp[Builtin.len_,ht,underlying,q09 hk,goInt]⟩
  ·rename_i e kk b hk;simp only[zaa] at hk;obtain⟨x,rfl,hr⟩:=one _ rfl
   cases hr.closed with
   | sli _ _ a len cap h1 h2 h3=>exact⟨_,_,h,.ofInt _ _,by simp[Builtin.len_,ht,underlying,qcd hk,goInt,h1]⟩
  ·rename_i e kk b hk;simp only[zaa] at hk;obtain⟨x,rfl,hr⟩:=one _ rfl
   cases hr.closed with
   | slg _ _ a len cap f h1 h2 h3 h4 h6 h5=>exact⟨_,_,h,.ofInt _ _,by simp[Builtin.len_,ht,underlying,qcd hk,goInt,h2]⟩
  ·rename_i e p o n tip es hk;simp only[zaa] at hk;obtain⟨x,rfl,hr⟩:=one _ rfl;cases hr<;>exact⟨_,_,h,.ofInt _ _,by simp[Builtin.len_,ht,underlying,qcd hk,goInt]⟩
  ·rename_i e hk;simp only[zaa] at hk;obtain⟨x,rfl,hr⟩:=one _ rfl;cases hr;exact⟨_,_,h,.ofInt _ _,by simp[Builtin.len_,ht,underlying,qcd hk,goInt]⟩
  ·rename_i n e v hk;simp only[zaa] at hk;obtain⟨x,rfl,hr⟩:=one _ rfl;exact⟨_,_,h,.ofInt _ _,by simp[Builtin.len_,ht,underlying,qos hk,goInt]⟩
  ·cases h
theorem xbm7{β:Type}{ts:Array TypeId}{ty:TypeId}{l:List V}{as:List Value}{k:V->Option β}{r:β}(h:capK P ts[0]? l k=some r)(hl:as.length=l.length)(hx: ∀(j:Nat) (c:V) (v:Value),l[j]? =some c->as[j]? =some v->VRep w Im ρ S c v):Pure P w Im ρ S k r (Builtin.cap_ ts ty as.toArray):=by
 unfold capK at h
 cases ht:ts[0]? with
 | none=>rw[ht] at h;simp at h
 | some t=>
  rw[ht] at h;simp only[zap] at h;split at h
  ·rename_i e hk;simp only[zaa] at hk;obtain⟨x,rfl⟩: ∃x,as=[x]:=by
    cases as with
    | nil=>simp at hl
    | cons x q=>cases q with
     | nil=>exact⟨x,rfl⟩
     | cons=>simp at hl
   have hr:=hx 0 _ x rfl rfl;cases hr;exact⟨_,_,h,.ofInt _ _,by simp[Builtin.cap_,ht,underlying,qcd hk,goInt]⟩
  ·cases h
theorem xbna{β:Type}{ts:Array TypeId}{ty:TypeId}{l:List V}{as:List Value}{k:V->Option β}{r:β}(h:minK l k=some r)(hl:as.length=l.length)(hx: ∀(j:Nat) (c:V) (v:Value),l[j]? =some c->as[j]? =some v->VRep w Im ρ S c v):Pure P w Im ρ S k r (Builtin.min_ ts ty as.toArray):=by
 unfold minK at h;split at h
 ·rename_i ka a kb b;replace h:=qaa h;obtain⟨hk,h⟩:=h;obtain rfl:ka=kb:=of_decide_eq_true hk;obtain⟨x,y,rfl⟩: ∃x y,as=[x,y]:=by
   cases as with
   | nil=>simp at hl
   | cons x q=>cases q with
    | nil=>simp at hl
    | cons y q=>cases q with
     | nil=>exact⟨x,y,rfl⟩
     | cons=>simp at hl
  have h1:VRep w Im ρ S (.cl (.int ka a)) x:=hx 0 _ x rfl rfl;have h2:VRep w Im ρ S (.cl (.int ka b)) y:=hx 1 _ y rfl rfl;obtain rfl:=h1.int;obtain rfl:=h2.int;refine⟨_,_,h,.ofInt _ _, ?_⟩;simp only[Builtin.min_,List.foldlM,Builtin.min2];by_cases hb:b<a<;>simp[hb]
 ·cases h
theorem xbm9{β:Type}{ts:Array TypeId}{ty:TypeId}{l:List V}{as:List Value}{k:V->Option β}{r:β}(h:maxK l k=some r)(hl:as.length=l.length)(hx: ∀(j:Nat) (c:V) (v:Value),l[j]? =some c->as[j]? =some v->VRep w Im ρ S c v):Pure P w Im ρ S k r (Builtin.max_ ts ty as.toArray):=by
 unfold maxK at h;split at h
 ·rename_i ka a kb b;replace h:=qaa h;obtain⟨hk,h⟩:=h;obtain rfl:ka=kb:=of_decide_eq_true hk;obtain⟨x,y,rfl⟩: ∃x y,as=[x,y]:=by
   cases as with
   | nil=>simp at hl
   | cons x q=>cases q with
    | nil=>simp at hl
    | cons y q=>cases q with
     | nil=>exact⟨x,y,rfl⟩
     | cons=>simp at hl
  have h1:VRep w Im ρ S (.cl (.int ka a)) x:=hx 0 _ x rfl rfl;have h2:VRep w Im ρ S (.cl (.int ka b)) y:=hx 1 _ y rfl rfl;obtain rfl:=h1.int;obtain rfl:=h2.int;refine⟨_,_,h,.ofInt _ _, ?_⟩;simp only[Builtin.max_,List.foldlM,Builtin.max2];by_cases hb:a<b<;>simp[hb]
 ·cases h
def BndV(b:Option Int)(v:Option Value):Prop:=match b with|none=>v=none|some m=> ∃k,v=some (.int k m)
theorem qm9{x:Option Operand}{ρ':Operand->V}{ev:Operand->Value}(hr: ∀o,VRep w Im ρ S (ρ' o) (ev o)){n:Option Int}(h:intO (x.map ρ')=some n):BndV n (x.map ev):=by
 unfold BndV
 cases x with
 | none=>simp[intO] at h;subst h;rfl
 | some o=>
  simp only[zap,intO] at h;split at h
  ·rename_i heq;cases heq
  ·rename_i k m heq;simp only[zaa] at heq h;subst h;have:=hr o;rw[heq] at this;exact⟨k,by simp[this.int]⟩
  ·cases h
theorem qc5{k:IntKind}{n:Int}{y:Nat}{code:BoundsCode}(h0:0<=n)(h1:n<=(y:Int)):(Instr.sliceBound (.int k n) y code).run P w=.ok n.toNat w:=by simp[Instr.sliceBound,asIntOf,h0,h1]
def loN:Option Int->Nat
 | none=>0
 | some n=>n.toNat
def hiN(len:Nat):Option Int->Nat
 | none=>len
 | some n=>n.toNat
theorem qf0{sl:Bool}{len cap:Nat}{lo hi:Option Int}{vl vh:Option Value}(hlo:BndV lo vl)(hhi:BndV hi vh)(hc:len<=cap)(h0: ∀m,lo=some m->0<=m)(h1: ∀m,hi=some m->0<=m/\m<=(len:Int))(h2:loN lo<=hiN len hi):
  (Instr.sliceBounds sl len cap vl vh none).run P w=.ok (loN lo,hiN len hi,cap) w:=by
 unfold BndV at hlo hhi
 cases lo with
 | none=>
  simp only at hlo;subst hlo
  cases hi with
  | none=>simp only at hhi;subst hhi;simp[Instr.sliceBounds,loN,hiN]
  | some m=>
   obtain⟨k,rfl⟩:=hhi;obtain⟨g1,g2⟩:=h1 m rfl;simp[Instr.sliceBounds,loN,hiN,qc5 g1 (show m<=(cap:Int) by omega)]
 | some n=>
  obtain⟨k,rfl⟩:=hlo;have g0:=h0 n rfl
  cases hi with
  | none=>
   simp only at hhi;subst hhi;simp only[loN,hiN] at h2;simp[Instr.sliceBounds,loN,hiN,qc5 g0 (show n<=(len:Int) by omega)]
  | some m=>
   obtain⟨k',rfl⟩:=hhi;obtain⟨g1,g2⟩:=h1 m rfl;simp only[loN,hiN] at h2;simp[Instr.sliceBounds,loN,hiN,qc5 g1 (show m<=(cap:Int) by omega),qc5 g0 (show n<=(m.toNat:Int) by omega)]
theorem qw8(a:Addr)(m n:Nat):(a.add m).add n=a.add (m+n):=by
 unfold Addr.add;by_cases hm:m=0
 ·subst hm;simp
 ·by_cases hn:n=0
  ·subst hn;simp[hm]
  ·have:m+n≠0:=by omega
   simp[hm,hn,this,zbq]
def Bnd(lo hi:Option Int)(len:Nat):Prop:=(∀m,lo=some m->0<=m)/\(∀m,hi=some m->0<=m/\m<=(len:Int))/\loN lo<=hiN len hi
theorem q6n{β:Type}{s:ByteArray}{lo hi:Option Int}{k:V->Option β}{r:β}(h:qp6 s lo hi k=some r):Bnd lo hi s.size/\k (.cl (.str (s.extract (loN lo) (hiN s.size hi))))=some r:=by
 unfold qp6 at h;split at h
 ·exact⟨⟨by simp,by simp,by simp[loN,hiN]⟩,h⟩
 ·rename_i l;replace h:=qaa h;obtain⟨h1,h⟩:=h;replace h:=qaa h;obtain⟨h2,h⟩:=h;have h1:=of_decide_eq_true h1;have h2:=of_decide_eq_true h2;exact⟨⟨fun m e=>by cases e;exact h1,by simp,by simp[loN,hiN];omega⟩,h⟩
 ·rename_i l;replace h:=qaa h;obtain⟨h1,h⟩:=h;replace h:=qaa h;obtain⟨h2,h⟩:=h;have h1:=of_decide_eq_true h1;have h2:=of_decide_eq_true h2;exact⟨⟨by simp,fun m e=>by cases e;exact⟨h1,h2⟩,by simp[loN]⟩,h⟩
 ·rename_i l m;replace h:=qaa h;obtain⟨h1,h⟩:=h;replace h:=qaa h;obtain⟨h2,h⟩:=h;replace h:=qaa h;obtain⟨h3,h⟩:=h;have h1:=of_decide_eq_true h1;have h2:=of_decide_eq_true h2;have h3:=of_decide_eq_true h3;exact⟨⟨fun m e=>by cases e;exact h1,fun m e=>by cases e;exact⟨by omega,h3⟩,by simp[loN,hiN];omega⟩,h⟩
theorem q1g{α β:Type}{xs:List α}{lo hi:Option Int}{k:List α->Option β}{r:β}(h:cutK.lst lo hi xs k=some r):Bnd lo hi xs.length/\k ((xs.take (hiN xs.length hi)).drop (loN lo))=some r:=by
 unfold cutK.lst at h;split at h
 ·exact⟨⟨by simp,by simp,by simp[loN,hiN]⟩,by simpa [loN,hiN] using h⟩
 ·rename_i l;replace h:=qaa h;obtain⟨h1,h⟩:=h;replace h:=qaa h;obtain⟨h2,h⟩:=h;have h1:=of_decide_eq_true h1;have h2:=of_decide_eq_true h2;exact⟨⟨fun m e=>by cases e;exact h1,by simp,by simp[loN,hiN];omega⟩,by simpa [loN,hiN] using h⟩
 ·rename_i l;replace h:=qaa h;obtain⟨h1,h⟩:=h;replace h:=qaa h;obtain⟨h2,h⟩:=h;have h1:=of_decide_eq_true h1;have h2:=of_decide_eq_true h2;exact⟨⟨by simp,fun m e=>by cases e;exact⟨h1,h2⟩,by simp[loN]⟩,by simpa [loN,hiN] using h⟩
 ·rename_i l m;replace h:=qaa h;obtain⟨h1,h⟩:=h;replace h:=qaa h;obtain⟨h2,h⟩:=h;replace h:=qaa h;obtain⟨h3,h⟩:=h;have h1:=of_decide_eq_true h1;have h2:=of_decide_eq_true h2;have h3:=of_decide_eq_true h3;exact⟨⟨fun m e=>by cases e;exact h1,fun m e=>by cases e;exact⟨by omega,h3⟩,by simp[loN,hiN];omega⟩,by simpa [loN,hiN] using h⟩
theorem xbcb{β:Type}{p o len:Nat}{tip:Bool}{e:Nat}{lo hi:Option Int}{k:V->Option β}{r:β}(h:cutK (.ref p o len tip e) lo hi k=some r):
  Bnd lo hi len/\∃tip',(tip'=true->tip=true/\hiN len hi=len)/\k (.ref p (o+loN lo) (hiN len hi - loN lo) tip' e)=some r:=by
 unfold cutK at h;simp only at h;split at h
 ·exact⟨⟨by simp,by simp,by simp[loN,hiN]⟩,tip,fun h=>⟨h,rfl⟩,by simpa [loN,hiN] using h⟩
 ·rename_i l;replace h:=qaa h;obtain⟨h1,h⟩:=h;replace h:=qaa h;obtain⟨h2,h⟩:=h;have h1:=of_decide_eq_true h1;have h2:=of_decide_eq_true h2;exact⟨⟨fun m e=>by cases e;exact h1,by simp,by simp[loN,hiN];omega⟩,tip,fun h=>⟨h,rfl⟩,by simpa [loN,hiN] using h⟩
 ·rename_i l;replace h:=qaa h;obtain⟨h1,h⟩:=h;replace h:=qaa h;obtain⟨h2,h⟩:=h;have h1:=of_decide_eq_true h1;have h2:=of_decide_eq_true h2;exact⟨⟨by simp,fun m e=>by cases e;exact⟨h1,h2⟩,by simp[loN]⟩,false,fun h=>by(cases h),by simpa [loN,hiN] using h⟩
 ·rename_i l m;replace h:=qaa h;obtain⟨h1,h⟩:=h;replace h:=qaa h;obtain⟨h2,h⟩:=h;replace h:=qaa h;obtain⟨h3,h⟩:=h;have h1:=of_decide_eq_true h1;have h2:=of_decide_eq_true h2;have h3:=of_decide_eq_true h3;exact⟨⟨fun m e=>by cases e;exact h1,fun m e=>by cases e;exact⟨by omega,h3⟩,by simp[loN,hiN];omega⟩,false,fun h=>by(cases h),by simpa [loN,hiN] using h⟩
theorem qcp{t e:TypeId}{lo hi:Option Int}{vl vh:Option Value}(hk:kd P t=.slice e)(hlo:BndV lo vl)(hhi:BndV hi vh){a:Option Addr}{len cap:Nat}(hb:Bnd lo hi len)(hc:len<=cap){i:TypeInfo}(hi':P.info? e=some i):
  (Instr.sliceAt t (.slice a len cap) vl vh none).run P w=.ok (.slice (if cap=loN lo then a else a.map (·.add (loN lo*i.size))) (hiN len hi - loN lo) (cap - loN lo)) w:=by
 have:=qf0 (P:=P) (w:=w) (sl:=true) hlo hhi hc hb.1 hb.2.1 hb.2.2;simp[Instr.sliceAt,Instr.slice,underlying,qcd hk,this,sizeOf,typeInfo,hi']
theorem xbae{lo hi:Option Int}{len:Nat}(h:Bnd lo hi len):hiN len hi<=len:=by
 cases hi with
 | none=>exact zar _
 | some m=>have:=h.2.1 m rfl;simp[hiN];omega
theorem xbb5{β:Type}{t:TypeId}{H:Heap}{x:V}{a:Value}{lo hi:Option Int}{vl vh:Option Value}{k:V->Option β}{r:β}(hob: ∀p o,qaj H p=some o->ORep w Im ρ (shOf H) o.row (ρ p))(h:qwm P t x lo hi k=some r)(hx:VRep w Im ρ (shOf H) x a)(hlo:BndV lo vl)(hhi:BndV hi vh):
  Pure P w Im ρ (shOf H) k r (Instr.sliceAt t a vl vh none):=by
 unfold qwm at h;split at h
 ·rename_i s hk;obtain rfl:=hx.str;obtain⟨hb,h⟩:=q6n h;refine⟨_,_,h,.ofStr _, ?_⟩;have:=qf0 (P:=P) (w:=w) (sl:=false) hlo hhi (zar s.size) hb.1 hb.2.1 hb.2.2;simp[Instr.sliceAt,Instr.slice,underlying,q09 hk,this]
 ·rename_i m e p n es hk;replace h:=qaa h;obtain⟨hc,h⟩:=h;simp only[zab,zao] at hc;obtain⟨⟨hc1,hc2⟩,hz⟩:=hc;obtain rfl:=qag.1 hc1;obtain rfl:=qag.1 hc2;obtain⟨i,hi',his⟩:=qb5 (P:=P) (e:=e) (qa7 hz);obtain⟨hb,tip',htip,h⟩:=xbcb h;have hle:=xbae hb;have run: ∀(ad:Addr) (i:TypeInfo),P.info? e=some i->(Instr.sliceAt t (.pointer (some ad)) vl vh none).run P w=
    .ok (.slice (some (if m=loN lo then ad else ad.add (loN lo*i.size))) (hiN m hi - loN lo) (m - loN lo)) w:=fun ad i hi'=>by
   have:=qf0 (P:=P) (w:=w) (sl:=false) hlo hhi (zar m) hb.1 hb.2.1 hb.2.2;simp[Instr.sliceAt,underlying,qos hk,this,sizeOf,typeInfo,hi',Instr.sureAddr]
  cases hx with
  | aptrN _ _ _ ad hS=>exact⟨_,_,h,.refN _ _ _ _ _ _ _ hS (by omega) (fun _=>rfl),run ad i hi'⟩
  | aptr _ _ _ b base lim h1 h2=>
    refine⟨_,_,h,.ref p _ _ _ _ _ b base lim _ _ h1 h2 rfl (by omega) ?_ ?_ ?_ ?_,run _ i hi'⟩
    ·simp only;have:=hb.2.2;omega
    ·intro ht;have:=(htip ht).2;have:=hb.2.2;simp only;omega
    ·intro hcap;rw[if_neg (by omega),qd6,his];simp
    ·cases ho:qaj H p with
     | none=>simp[shOf,ho] at h1
     | some ob=>
      have hO:=hob p ob ho;rw[h2] at hO;obtain⟨hok,_,hlen,_,_⟩:=hO;simp only[shOf,ho,zap,zaa,shp,Sh.mk.injEq] at h1;obtain⟨g1,g2,g3⟩:=h1;have:(qaf ob.row).length=m*qaq P e:=by
       cases hr:ob.row with
       | arri n kk l=>rw[hr] at g1 g2 hok;simp[Rw.len,Rw.esz] at g1 g2;simp[qaf, <- g2];rw[<- g1];exact hok
       | arrg n es l=>rw[hr] at g1 g2 hok;simp[Rw.len,Rw.esz] at g1 g2;simp only[qaf,zam];rw[qbr hok.2,hok.1,g1,g2]
       | _=>rw[hr] at g3;simp[q6u] at g3
      have h3:0+loN lo+(m - loN lo)=m:=by have:=hb.2.2;omega
      rw[h3];omega
 ·rename_i e p o len tip es hk;replace h:=qaa h;obtain⟨hc,h⟩:=h;simp only[zab,zao] at hc;obtain⟨hc,hz⟩:=hc;obtain rfl:=qag.1 hc;obtain⟨i,hi',his⟩:=qb5 (P:=P) (e:=e) (qa7 hz);obtain⟨hb,tip',htip,h⟩:=xbcb h;have hle:=xbae hb
  ·cases hx with
   | refN _ _ _ _ _ a cap hS hl ha=>
    refine⟨_,_,h,.refN _ _ _ _ _ _ _ hS (by omega) (fun hne=> ?_),qcp hk hlo hhi hb hl hi'⟩;have:=ha (by omega);split<;>simp[this]
   | refV _ s _ _ h1 h2 h3 h4=>
    have e1:hiN 0 hi=0:=by omega
    have e2:loN lo=0:=by have:=hb.2.2;omega
    rw[e1,e2] at h;refine⟨_,_,h,.refV p s _ _ h1 h2 h3 h4, ?_⟩;rw[qcp hk hlo hhi hb (zar _) hi',e1,e2];simp
   | ref _ _ _ _ _ s b base lim ad cap h1 h2 h3 h4 h5 h6 h7 h8=>
    have hb2:=hb.2.2;have run:=qcp (P:=P) (w:=w) hk hlo hhi hb (a:=some ad) h4 hi';have e3:(if cap=loN lo then some ad else(some ad).map (·.add (loN lo*i.size)))=some (if cap=loN lo then ad else ad.add (loN lo*i.size)):=by split<;>rfl
    rw[e3] at run;refine⟨_,_,h,.ref p _ _ _ _ s b base lim _ _ h1 h2 h3 (by omega) (by omega) (fun ht=> ?_) (fun hcap=> ?_) ?_,run⟩
    ·have:=htip ht;have:=h6 this.1;omega
    ·rw[if_neg (by omega),h7 (by omega),qd6,his,zdc,zbq]
    ·have:o+loN lo+(cap - loN lo)=o+cap:=by omega
     rw[this];exact h8
 ·rename_i e ki xs hk;replace h:=qaa h;obtain⟨hc,h⟩:=h;have hs:=qag.1 hc;obtain⟨i,hi',his⟩:=qb5 (P:=P) (e:=e) (by omega);unfold cutK at h;simp only at h;obtain⟨hb,h⟩:=q1g h;have hle:=xbae hb;have hb2:=hb.2.2
  cases hx.closed with
  | sli _ _ a len cap h1 h2 h3=>
   subst h1;refine⟨_,_,h,.cl _ _ (.sli ki _ _ _ _ (by simp;omega) (by omega) fun j n hj=> ?_),qcp hk hlo hhi hb h2 hi'⟩;have hjl:loN lo+j<hiN xs.length hi:=by have:=(zad.1 hj).1;simp at this;omega
   rw[zbv,zbm hjl] at hj;obtain⟨ad,rfl,hI,hcell⟩:=h3 _ n hj;refine⟨if cap=loN lo then ad else ad.add (loN lo*i.size),by split<;>rfl, ?_, ?_⟩
   ·split
    ·exact hI
    ·rw[qec];exact hI
   ·rw[if_neg (by omega),qw8,his, <- hs,zdr];exact hcell
 ·rename_i e es xs hk;replace h:=qaa h;obtain⟨hc,h⟩:=h;simp only[zab,zao] at hc;obtain⟨hc,hz⟩:=hc;obtain rfl:=qag.1 hc;obtain⟨i,hi',his⟩:=qb5 (P:=P) (e:=e) (qa7 hz);unfold cutK at h;simp only at h;obtain⟨hb,h⟩:=q1g h;have hle:=xbae hb;have hb2:=hb.2.2
  ·cases hx.closed with
   | slg _ _ a len cap f h1 h2 h3 h4 h6 h5=>
    subst h2;have hu: ∀c∈(xs.take (hiN xs.length hi)).drop (loN lo),(cell1 c).length=qaq P e:=fun c hc=>h1 c (zba (zbi hc));have hfl:((xs.take (hiN xs.length hi)).drop (loN lo)).flatMap cell1=((xs.flatMap cell1).take (hiN xs.length hi*qaq P e)).drop (loN lo*qaq P e):=by rw[qlh _ fun c hc=>h1 c (zba hc),qli _ h1]
    have key: ∀j c,(((xs.take (hiN xs.length hi)).drop (loN lo)).flatMap cell1)[j]? =some c->loN lo*qaq P e+j<hiN xs.length hi*qaq P e/\(xs.flatMap cell1)[loN lo*qaq P e+j]? =some c:=fun j c hj=>by
     rw[hfl] at hj;have hjl:loN lo*qaq P e+j<hiN xs.length hi*qaq P e:=by have:=(zad.1 hj).1;simp at this;omega
     rw[zbv,zbm hjl] at hj;exact⟨hjl,hj⟩
    refine⟨_,_,h,.cl _ _ (.slg _ _ _ _ _ (fun j=>f (loN lo*qaq P e+j)) hu (by simp;omega) (by omega) (fun j c hj=> ?_) (fun j c hj=>h6 _ c (key j c hj).2) fun j c hj=>h5 _ c (key j c hj).2),qcp hk hlo hhi hb h3 hi'⟩;obtain⟨hjl,hj'⟩:=key j c hj;obtain⟨ad,rfl,hI,hcell⟩:=h4 _ c hj';have hne:cap≠loN lo:=fun e0=>by
     have:hiN xs.length hi=loN lo:=by omega
     rw[this] at hjl;omega
    refine⟨ad.add (loN lo*i.size),by rw[if_neg hne];rfl,by rw[qec];exact hI, ?_⟩;rw[qw8,his];exact hcell
 ·rename_i e hk;replace h:=qaa h;obtain⟨hz,h⟩:=h;simp only[zao] at hz;obtain⟨i,hi',his⟩:=qb5 (P:=P) (e:=e) (qa7 hz);unfold cutK at h;simp only at h;obtain⟨hb,h⟩:=q1g h;have hle:=xbae hb;have hb2:=hb.2.2;simp only[zbt] at hb hle hb2;have e1:hiN 0 hi=0:=by omega
  have e2:loN lo=0:=by omega
  cases hx;refine⟨_,_,h,.nils, ?_⟩;rw[qcp hk hlo hhi hb (zar _) hi',e1,e2];simp
 ·cases h
theorem q7e{β:Type}{t:TypeId}{H:Heap}{x:V}{a:Value}{h m:Int}{vh vm:Option Value}{k:V->Option β}{r:β}(hs:slice3K P t x h m k=some r)(hx:VRep w Im ρ (shOf H) x a)(hhi:BndV (some h) vh)(hmx:BndV (some m) vm):Pure P w Im ρ (shOf H) k r (Instr.sliceAt t a none vh vm):=by
 unfold slice3K at hs;split at hs
 ·rename_i e ki xs hk;replace hs:=qaa hs;obtain⟨hc,hs⟩:=hs;replace hs:=qaa hs;obtain⟨hm,hs⟩:=hs;simp only[zab] at hc;obtain⟨⟨hsz,h0⟩,h1⟩:=hc;have hsz:=qag.1 hsz;have h0:=of_decide_eq_true h0;have h1:=of_decide_eq_true h1;have hm:=of_decide_eq_true hm;obtain⟨i,hi',his⟩:=qb5 (P:=P) (e:=e) (by omega);obtain⟨kh,rfl⟩:=hhi;obtain⟨km,rfl⟩:=hmx
  cases hx.closed with
  | sli _ _ a len cap g1 g2 g3=>
   subst g1;have hb:(Instr.sliceBounds true xs.length cap none (some (.int kh h)) (some (.int km m))).run P w=.ok (0,h.toNat,m.toNat) w:=by simp[Instr.sliceBounds,qc5 (show 0<=m by omega) (show m<=(cap:Int) by omega),qc5 h0 (show h<=(m.toNat:Int) by omega)]
   refine⟨_,.slice (if m.toNat=0 then a else a.map (·.add (0*i.size))) h.toNat m.toNat,hs,.cl _ _ (.sli ki _ _ _ _ (by simp;omega) (by omega) fun j n hj=> ?_),by
    simp[Instr.sliceAt,Instr.slice,underlying,qcd hk,hb,sizeOf,typeInfo,hi']⟩
   have hjl:j<h.toNat:=by have:=(zad.1 hj).1;simp at this;omega
   rw[zbm hjl] at hj;obtain⟨ad,rfl,hI,hcell⟩:=g3 _ n hj;refine⟨ad.add 0, ?_,by rw[qec];exact hI, ?_⟩
   ·rw[if_neg (by omega),zc2];rfl
   ·rw[qw8,za1];exact hcell
 ·cases hs
end
section
variable {P:Program} {w:World} {Im:Nat->Prop} {ρ:Nat->Loc} {S:Nat->Option Sh}
def Reps(w:World)(Im:Nat->Prop)(ρ:Nat->Loc)(S:Nat->Option Sh)(l:List V)(vs:List Value):Prop:=
 vs.length=l.length/\(∀v∈vs,oneC v=true)/\∀(j:Nat) (c:V) (v:Value),l[j]? =some c->vs[j]? =some v->VRep w Im ρ S c v
theorem qey: ∀(m:List V) (l:List V) (o:Nat),(qhs l o m).length=l.length
 | [],l,o=>rfl
 | v::r,l,o=>by simp[qhs,qey r]
theorem qj8: ∀(m:List V) (l:List V) (o j:Nat),o+m.length<=l.length->(qhs l o m)[j]? =if o<=j/\j<o+m.length then m[j - o]? else l[j]?
 | [],l,o,j,_=>by simp[qhs];omega
 | v::r,l,o,j,h=>by
  simp only[qhs];simp only[zaf] at h;rw[qj8 r (l.set o v) (o+1) j (by simp;omega)];by_cases h1:o+1<=j/\j<o+1+r.length
  ·rw[if_pos h1,if_pos (by simp;omega)];have:j - o=(j - (o+1))+1:=by omega
   rw[this];simp
  ·rw[if_neg h1];by_cases h2:j=o
   ·subst h2;rw[if_pos (by simp)];rw[List.getElem?_set_self (by omega)];simp
   ·rw[if_neg (by simp;omega)];rw[List.getElem?_set_ne (by omega)]
theorem q3d(off:Nat): ∀(vs:List Value) (k:Nat) (cs:Array Value),((vs.zipIdx k).foldl (fun cs (cj:Value×Nat)=>cs.setIfInBounds (off+cj.2) cj.1) cs).size=cs.size/\
  ∀j,((vs.zipIdx k).foldl (fun cs (cj:Value×Nat)=>cs.setIfInBounds (off+cj.2) cj.1) cs)[j]? =if off+k<=j/\j<off+k+vs.length/\j<cs.size then vs[j - (off+k)]? else cs[j]?
 | [],k,cs=>by refine⟨rfl,fun j=> ?_⟩;rw[if_neg (by simp;omega)];rfl
 | v::r,k,cs=>by
  obtain⟨h1,h2⟩:=q3d off r (k+1) (cs.setIfInBounds (off+k) v);simp only[List.zipIdx_cons,zc8];refine⟨by rw[h1];simp,fun j=> ?_⟩;rw[h2 j];simp only[Array.size_setIfInBounds,zaf];by_cases c1:off+(k+1)<=j/\j<off+(k+1)+r.length/\j<cs.size
  ·rw[if_pos c1,if_pos (by omega)];have:j - (off+k)=(j - (off+(k+1)))+1:=by omega
   rw[this];simp
  ·rw[if_neg c1];by_cases c2:j=off+k
   ·subst c2;by_cases c3:off+k<cs.size
    ·rw[if_pos (by omega)];simp[zb0,c3]
    ·rw[if_neg (by omega)];simp[zb0,c3]
   ·rw[if_neg (by omega)];simp[zb0,Ne.symm c2]
theorem qp8{place:Nat->Option (Nat×Nat)}: ∀ {ps:List (Nat×V)} {qs:List (Nat×Value)} {l l':List V} {cs:Array Value},xbel place l ps=some l'->qs.length=ps.length->
  (∀(j:Nat) (p:Nat×V) (q:Nat×Value),ps[j]? =some p->qs[j]? =some q->q.1=p.1/\VRep w Im ρ S p.2 q.2)->Reps w Im ρ S l cs.toList->
  ∃cs',Instr.fill place cs qs=some cs'/\Reps w Im ρ S l' cs'.toList
 | [],qs,l,l',cs,h,hl,_,hc=>by
  simp only[xbel,zaa] at h;subst h
  cases qs with
  | nil=>exact⟨cs,rfl,hc⟩
  | cons=>simp at hl
 | (i,v)::ps,qs,l,l',cs,h,hl,hr,hc=>by
  cases qs with
  | nil=>simp at hl
  | cons q qs=>
   obtain⟨hq1,hq2⟩:=hr 0 (i,v) q rfl rfl;obtain⟨q1,q2⟩:=q;simp only at hq1 hq2;subst hq1;simp only[xbel] at h
   cases hp:place q1 with
   | none=>simp[hp] at h
   | some os=>
    obtain⟨off,size⟩:=os;simp only[hp] at h;replace h:=qaa h;obtain⟨hb,h⟩:=h;simp only[zab] at hb;obtain⟨⟨hok,hsz⟩,hle⟩:=hb;have hsz:=qag.1 hsz;have hle:off+size<=l.length:=by simpa using hle
    obtain⟨g1,g3,g2⟩:=qh5 hq2 hok;have hcl:cs.size=l.length:=by simpa using hc.1
    have hqs:q2.cells.size=size:=by rw[<- hsz, <- g1];simp
    have hnot: ¬(q2.cells.size≠size|| off+q2.cells.size>cs.size)=true:=by simp[hqs];omega
    obtain⟨e1,e2⟩:=q3d off q2.cells.toList 0 cs;have hz:q2.cells.zipIdx.foldl (fun cs (cj:Value×Nat)=>cs.setIfInBounds (off+cj.2) cj.1) cs=(q2.cells.toList.zipIdx 0).foldl (fun cs (cj:Value×Nat)=>cs.setIfInBounds (off+cj.2) cj.1) cs:=by rw[<- Array.foldl_toList];simp
    obtain⟨cs',f1,f2⟩:=qp8 (ps:=ps) (qs:=qs) (cs:=q2.cells.zipIdx.foldl (fun cs (cj:Value×Nat)=>cs.setIfInBounds (off+cj.2) cj.1) cs) h (by simpa using hl) (fun j p q hj hq=>hr (j+1) p q (by simpa using hj) (by simpa using hq)) (by
      rw[hz];refine⟨by rw[qey,Array.length_toList,e1,hcl],fun v hv=> ?_,fun j c v hj hv=> ?_⟩
      ·obtain⟨j,hj⟩:=zb1.1 hv;rw[zcq,e2 j] at hj;split at hj
       ·exact g3 v (zac hj)
       ·exact hc.2.1 v (zac (by simpa using hj))
      rw[zcq,e2 j] at hv;rw[qj8 _ _ _ _ (by rw[hsz];exact hle)] at hj;have hlen:q2.cells.toList.length=size:=by rw[g1,hsz]
      by_cases c1:off<=j/\j<off+size
      ·rw[if_pos (by rw[hsz];exact c1)] at hj;rw[if_pos (by rw[hlen];omega)] at hv;exact g2 _ c v hj (by simpa using hv)
      ·rw[if_neg (by rw[hsz];exact c1)] at hj;rw[if_neg (by rw[hlen];omega)] at hv;exact hc.2.2 j c v hj (by simpa using hv))
    refine⟨cs', ?_,f2⟩;simp only[Instr.fill,hp];rw[if_neg hnot];exact f1
theorem qfz{t:TypeId}(h:(P.info? t).isSome=true):(sizeOf t).run P w=.ok (qaq P t) w:=by obtain⟨i,hi⟩:=zbn.1 h;simp[sizeOf,typeInfo,hi,qaq]
theorem qyj: ∀(l:List Field),(∀f∈l,(P.info? f.type).isSome=true)->
  (l.mapM fun f=>(do pure (f.offset, <- sizeOf f.type):Sem (Nat×Nat))).run P w=.ok (l.map fun f=>(f.offset,qaq P f.type)) w
 | [],_=>by simp
 | f::r,h=>by
  have hs:=qfz (P:=P) (w:=w) (h f (by simp));have e:(do pure (f.offset, <- sizeOf f.type):Sem (Nat×Nat)).run P w=.ok (f.offset,qaq P f.type) w:=by simp[hs]
  have ih:=qyj r fun g hg=>h g (by simp[hg]);rw[List.mapM_cons,Sem.run_bind,e,Result.andThen_ok,Sem.run_bind,ih];rfl
theorem xbb1{β:Type}{t:TypeId}{ps:List (Nat×V)}{qs:List (Nat×Value)}{k:V->Option β}{r:β}(h:q0q P t ps k=some r)(hl:qs.length=ps.length)(hr: ∀(j:Nat) (p:Nat×V) (q:Nat×Value),ps[j]? =some p->qs[j]? =some q->q.1=p.1/\VRep w Im ρ S p.2 q.2):Pure P w Im ρ S k r (Instr.build t qs.toArray):=by
 unfold q0q at h
 cases hz:q7t P t with
 | none=>simp[hz] at h
 | some z=>
  simp only[hz] at h;replace h:=qaa h;obtain⟨hzok,h⟩:=h;obtain⟨val,hzr,hzrun⟩:=qr3 (w:=w) (Im:=Im) (ρ:=ρ) (S:=S) hz;obtain⟨g1,g3,g2⟩:=qh5 hzr hzok;split at h
  ·rename_i fs hk;replace h:=qaa h;obtain⟨hall,h⟩:=h
   cases hf:xbel (fun i=>(fs[i]?).map fun f=>(f.offset,qaq P f.type)) (qd7 z) ps with
   | none=>simp[hf] at h
   | some l=>
    simp only[hf] at h;obtain⟨cs',f1,f2⟩:=qp8 (cs:=val.cells) hf hl hr ⟨g1,g3,g2⟩;refine⟨_,_,h,VRep.mkAgg f2.1 f2.2.1 f2.2.2, ?_⟩;have hpl:=qyj (P:=P) (w:=w) fs.toList (fun f hf=>zai.1 hall f hf);have hpl':(fs.mapM fun(f:Field)=>(do pure (f.offset, <- sizeOf f.type):Sem (Nat×Nat))).run P w=.ok ((fs.toList.map fun(f:Field)=>(f.offset,qaq P f.type)).toArray) w:=by rw[Array.mapM_eq_mapM_toList];simp only[Sem.run_map,hpl,Result.andThen_ok]
    have hplace:(fun(i:Nat)=>((fs.toList.map fun(f:Field)=>(f.offset,qaq P f.type)).toArray)[i]?)=fun(i:Nat)=>(fs[i]?).map fun(f:Field)=>(f.offset,qaq P f.type):=by funext i;simp
    simp only[Instr.build,Sem.run_bind,hzrun,Result.andThen_ok,Sem.run_pure,qko (qfn hk),hpl',hplace,List.toList_toArray,f1]
  ·rename_i n e hk;replace h:=qaa h;obtain⟨hinfo,h⟩:=h
   cases hf:xbel (fun i=>some (i*qaq P e,qaq P e)) (qd7 z) ps with
   | none=>simp[hf] at h
   | some l=>
    simp only[hf] at h;split at h
    ·rename_i v hp;obtain⟨cs',f1,f2⟩:=qp8 (cs:=val.cells) hf hl hr ⟨g1,g3,g2⟩;rcases qv2 hp f2.1 f2.2.1 f2.2.2 with⟨_,_,hv⟩|⟨ho,_⟩
     ·refine⟨_,_,h,hv, ?_⟩;simp only[Instr.build,Sem.run_bind,hzrun,Result.andThen_ok,Sem.run_pure,qko (qos hk),qfz hinfo,List.toList_toArray,f1]
     ·rw[hk] at ho;cases ho
    ·cases h
  ·cases h
end
structure SetAt (w:World) (b o:Nat) (vs:List Value) (w':World):Prop where
 os:w'.os=w.os
 tape:w'.tape=w.tape
 output:w'.output=w.output
 size:w'.heap.size=w.heap.size
 block: ∀c,c≠b->w'.heap[c]? =w.heap[c]?
 cin: ∀j v,vs[j]? =some v->w'.cell? ⟨b,o+j,none⟩=some v
 cout: ∀q,q<o\/o+vs.length<=q->w'.cell? ⟨b,q,none⟩=w.cell? ⟨b,q,none⟩
 fz: ∀a,w'.frozen? a=w.frozen? a
theorem qn2{w:World}{b:Nat}: ∀(vs:List Value) (o:Nat),(∀j,j<vs.length->(w.cell? ⟨b,o+j,none⟩).isSome=true)->SetAt w b o vs (w.setCells b o vs):=by
 intro vs o h;have hsz: ∀(vs:List Value) (o:Nat) (w:World),(w.setCells b o vs).heap.size=w.heap.size/\(∀c,c≠b->(w.setCells b o vs).heap[c]? =w.heap[c]?)/\
   (w.setCells b o vs).os=w.os/\(w.setCells b o vs).tape=w.tape/\(w.setCells b o vs).output=w.output:=by
  intro vs
  induction vs with
  | nil=>intro o w;simp[World.setCells]
  | cons v r ih=>
   intro o w;simp only[World.setCells];obtain⟨h1,h2,h3,h4,h5⟩:=ih (o+1) (w.setCell ⟨b,o,none⟩ v);refine⟨by rw[h1];simp,fun c hc=>by rw[h2 c hc];simp only[World.setCell,Array.getElem?_modify];rw[if_neg (Ne.symm hc)],h3,h4,h5⟩
 obtain⟨h1,h2,h3,h4,h5⟩:=hsz vs o w;refine⟨h3,h4,h5,h1,h2,fun j v hj=> ?_,fun q hq=>World.cell?_setCells_out b vs o w _ (fun _ _=>hq),fun a=>World.frozen?_setCells b vs o w a⟩;have hjl:=(zad.1 hj).1;rw[World.cell?_setCells_in b vs o w h j hjl];exact(zae hjl▸hj)
theorem Inv.write{E:Env}{w0:Base}{bl I0:Nat->Prop}{s:List (Nat×V)}{H:Heap}{a:Act}{w w':World}{Im:Nat->Prop}{ρ:Nat->Loc}(h:Inv E w0 bl I0 s H a w Im ρ){p:Nat}{row row':Rw}(hp:qaj H p=some ⟨row,false⟩){b base lim:Nat}(hr:ρ p=some (b,base,lim))(hs:shp ⟨row',false⟩=shp ⟨row,false⟩)(hok:okR row'){q:Nat}{vs:List Value}(hw:SetAt w b (base+q) vs w')(hlen:(qaf row').length=(qaf row).length)(hone: ∀v∈vs,oneC v=true)(hin: ∀(j:Nat) (c:V) (v:Value),(qaf row')[q+j]? =some c->vs[j]? =some v->VRep w Im ρ (shOf H) c v)(hout: ∀j,j<q\/q+vs.length<=j->(qaf row')[j]? =(qaf row)[j]?):
  Inv E w0 bl I0 s (qct H p ⟨row',false⟩) a w' Im ρ:=by
 have hlk:=h.gam.lk p _ b base lim hp hr;have hnI: ¬Im b:=(hlk.2.2 rfl).1;have hk:Keep Im w w':=fun c hc=>hw.block c (fun e=>by subst e;exact hnI hc);have hS:shOf (qct H p ⟨row',false⟩)=shOf H:=by
  funext x;rw[qda];split
  ·rename_i e;subst e;simp[shOf,hp,hs]
  ·rfl
 have hv: ∀v x,VRep w Im ρ (shOf H) v x->VRep w' Im ρ (shOf (qct H p ⟨row',false⟩)) v x:=fun v x hx=>
  hx.congr hk (fun _ h=>h) fun q _=>.inr ⟨by rw[hS],rfl⟩
 refine⟨⟨fun c hc=>by rw[hw.size];exact h.gam.im c hc,h.gam.i0,fun x o hx=> ?_,fun x y o o' c e1 e2 e3 e4 hx hy hrx hry hne=> ?_,fun x o c e1 e2 hx hrx=> ?_,h.gam.imo⟩,
  ⟨hw.os.trans h.fr.os,hw.tape.trans h.fr.tape,hw.output.trans h.fr.output,by rw[hw.size];exact h.fr.size,fun c hc hn=> ?_⟩,
  fun t=>hv _ _ (h.sl t),h.nt,h.df.keep hk (fun _ h=>h),fun g c hg=>(h.gl g c hg).keep hk (fun _ h=>h),fun j o hj hg=>by
   rw[qau] at hg;split at hg
   ·rename_i e;subst e;simp only[zaa] at hg;subst hg;rw[hs];exact h.st j _ hj hp
   ·exact h.st j o hj hg⟩
 ·rw[qau] at hx;by_cases e:x=p
  ·subst e;simp only[if_true,zaa] at hx;subst hx;have hO:=h.gam.ob x _ hp;rw[hr] at hO ⊢;obtain⟨_,g2,g3,g4,g5⟩:=hO;refine⟨hok,by rw[hw.size];exact g2,by rw[hlen];exact g3,fun i hi=> ?_,fun j c hj=> ?_⟩
   ·obtain⟨g6,g7⟩:=g4 i hi;refine⟨?_,by rw[hw.fz];exact g7⟩;by_cases hc:i<q\/q+vs.length<=i
    ·rw[hw.cout _ (by omega)];exact g6
    ·have:i=q+(i - q):=by omega
     rw[this, <- zbq,hw.cin (i - q) _ (zae (by omega))];rfl
   ·by_cases hc:j<q\/q+vs.length<=j
    ·rw[hout j hc] at hj;obtain⟨v,g6,g8,g7⟩:=g5 j c hj;exact⟨v,by rw[hw.cout _ (by omega)];exact g6,g8,hv _ _ g7⟩
    ·have e':j=q+(j - q):=by omega
     rw[e'] at hj;obtain⟨y,hv'⟩: ∃y,vs[j - q]? =some y:=⟨_,zae (l:=vs) (i:=j - q) (by omega)⟩;refine⟨y, ?_,hone _ (zac hv'),hv _ _ (hin _ c _ hj hv')⟩;have:=hw.cin _ _ hv';rw[zbq, <- e'] at this;exact this
  ·rw[if_neg e] at hx;have hO:=h.gam.ob x o hx;refine ORep.congr hO (fun c e1 e2 hrx=>hw.block c fun ec=> ?_) fun j c y hj hy=>hv _ _ hy;subst ec;have:=(h.gam.dj p x _ o c base lim e1 e2 hp hx hr hrx (Ne.symm e)).1;cases this
 ·have hd: ∀z u,qaj (qct H p ⟨row',false⟩) z=some u->∃u',qaj H z=some u'/\u'.lock=u.lock:=fun z u hz=>by
   rw[qau] at hz;split at hz
   ·rename_i e;subst e;simp only[zaa] at hz;subst hz;exact⟨_,hp,rfl⟩
   ·exact⟨u,hz,rfl⟩
  obtain⟨u,hu,hl⟩:=hd x o hx;obtain⟨u',hu',hl'⟩:=hd y o' hy;rw[<- hl, <- hl'];exact h.gam.dj x y u u' c e1 e2 e3 e4 hu hu' hrx hry hne
 ·rw[hw.size];rw[qau] at hx;split at hx
  ·rename_i e;subst e;simp only[zaa] at hx;subst hx;have:=h.gam.lk x ⟨row,false⟩ c e1 e2 hp hrx;exact this
  ·exact h.gam.lk x o c e1 e2 hx hrx
 ·rw[hw.block c]
  ·exact h.fr.block c hc hn
  ·rintro rfl;rcases(hlk.2.2 rfl).2 with h1|h1
   ·exact hn h1
   ·omega
theorem xbjk{v:Value}(h:oneC v=true):v.oneCell'=true:=by cases v<;>first|rfl|cases h
theorem q1p{P:Program}{w:World}{t:TypeId}{b o:Nat}{x:Value}(hi:(P.info? t).isSome=true)(hsz:x.cells.size=qaq P t)(hc: ∀j,j<x.cells.size->(w.cell? ⟨b,o+j,none⟩).isSome=true)(hf: ∀j,j<x.cells.size->w.frozen? ⟨b,o+j,none⟩=false)(h1: ∀v∈x.cells.toList,oneC v=true):
  (Instr.storeAt t (.pointer (some ⟨b,o,none⟩)) x).run P w=.ok () (w.setCells b o x.cells.toList):=by
 have:=run_storeCells_cells (P:=P) b o x.cells.toList 0 w (by simpa using hc) (by simpa using hf) fun v hv=>xbjk (h1 v hv);simp only[Instr.storeAt,Instr.sureAddr,storeVar,Sem.run_bind,Sem.run_pure,Result.andThen_ok,qfz hi];rw[if_neg (by simp[hsz])];simpa using this
theorem qk7{P:Program}{E:Env}{w0:Base}{bl I0:Nat->Prop}{s:List (Nat×V)}{H:Heap}{a:Act}{w:World}{Im:Nat->Prop}{ρ:Nat->Loc}(h:Inv E w0 bl I0 s H a w Im ρ){p:Nat}{row row':Rw}(hp:qaj H p=some ⟨row,false⟩){b base lim:Nat}(hr:ρ p=some (b,base,lim))(hs:shp ⟨row',false⟩=shp ⟨row,false⟩)(hok:okR row'){q:Nat}{t:TypeId}{x:Value}{C:List V}(hinfo:(P.info? t).isSome=true)(hsz:C.length=qaq P t)(hx:Reps w Im ρ (shOf H) C x.cells.toList)(hle:q+C.length<=(qaf row).length)(hlen:(qaf row').length=(qaf row).length)(hget: ∀j,(qaf row')[j]? =if q<=j/\j<q+C.length then C[j - q]? else(qaf row)[j]?):
  ∃w',(Instr.storeAt t (.pointer (some ⟨b,base+q,none⟩)) x).run P w=.ok () w'/\Inv E w0 bl I0 s (qct H p ⟨row',false⟩) a w' Im ρ:=by
 have hO:=h.gam.ob p _ hp;rw[hr] at hO;obtain⟨g1,g2,g3,g4,g5⟩:=hO;have g3:(qaf row).length<=lim:=g3;obtain⟨x1,x2,x3⟩:=hx;have hsize:x.cells.size=C.length:=by simpa using x1
 have hex: ∀j,j<x.cells.toList.length->(w.cell? ⟨b,base+q+j,none⟩).isSome=true:=fun j hj=>by have:=(g4 (q+j) (by rw[x1] at hj;omega)).1;rwa [<- zbq] at this
 refine⟨_,q1p hinfo (by rw[hsize,hsz]) (fun j hj=>hex j (by simpa using hj)) (fun j hj=> ?_) x2,h.write hp hr hs hok (q:=q) (qn2 _ _ hex) hlen x2 (fun j c v hj hv=> ?_) fun j hj=> ?_⟩
 ·have:=(g4 (q+j) (by rw[hsize] at hj;omega)).2;rwa [<- zbq] at this
 ·have hjl:j<C.length:=by have:=(zad.1 hv).1;omega
  rw[hget,if_pos (by omega)] at hj;exact x3 j c v (by simpa using hj) hv
 ·rw[x1] at hj;rw[hget,if_neg (by omega)]
theorem xbj6{α:Type}(l:List α)(i:Nat)(x:α)(j:Nat)(hi:i<l.length):(l.set i x)[j]? =if i<=j/\j<i+1 then some x else l[j]? :=by
 by_cases h:j=i
 ·subst h;simp[hi]
 ·rw[List.getElem?_set_ne (Ne.symm h),if_neg (by omega)]
theorem qu0{e:Nat}: ∀ {l:List CV} {i:Nat} {c:CV} (j:Nat),(∀c∈l,(cell1 c).length=e)->i<l.length->(cell1 c).length=e->
  ((l.set i c).flatMap cell1)[j]? =if i*e<=j/\j<i*e+e then(cell1 c)[j - i*e]? else(l.flatMap cell1)[j]?
 | [],i,c,j,_,hi,_=>by simp at hi
 | d::r,0,c,j,h,_,hc=>by
  have hd:=h d (by simp);simp only[List.set_cons_zero,za5,zc2,zcc,za1,true_and,zcv];by_cases hj:j<e
  ·rw[if_pos hj,zax (by omega)]
  ·rw[if_neg hj,zav (by omega),zav (by omega),hc,hd]
 | d::r,i+1,c,j,h,hi,hc=>by
  have hd:=h d (by simp);have ih:=qu0 (l:=r) (i:=i) (c:=c) (j - e) (fun d hd=>h d (by simp[hd])) (by simpa using hi) hc;simp only[List.set_cons_succ,za5];have e1:(i+1)*e=i*e+e:=zcu i e;rw[e1];by_cases hj:j<e
  ·rw[zax (by omega),zax (by omega),if_neg (by omega)]
  ·rw[zav (by omega),zav (by omega),hd,ih];by_cases hc2:i*e<=j - e/\j - e<i*e+e
   ·rw[if_pos hc2,if_pos (by omega)];congr 1;omega
   ·rw[if_neg hc2,if_neg (by omega)]
theorem qe5(H:Heap): ∀(u v:Upd),updH H (u++v)=updH (updH H u) v:=by
 intro u
 induction u generalizing H with
 | nil=>intro v;rfl
 | cons x r ih=>
  intro v;obtain⟨p,ob⟩:=x;cases ob<;>simp only[za8,updH]<;>exact ih _ v
theorem qee{H:Heap}{p:Nat}: ∀(l:List Nat) (H1:Heap),p∉l->qaj (updH H1 (lockAll H l)) p=qaj H1 p
 | [],H1,_=>rfl
 | q::r,H1,h=>by
  simp only[zas,not_or] at h;simp only[lockAll]
  cases qaj H q with
  | none=>exact qee r H1 h.2
  | some ob=>
   simp only[updH];rw[qee r _ h.2,qau,if_neg h.1]
theorem qe8{e:Nat}{c:CV}(h:q0w e c=true):qd7 (.cl c)=(cell1 c).map .cl/\(cell1 c).length=e:=by unfold q0w at h;simp only[zab] at h;refine⟨?_,qag.1 h.2⟩;show(qxh c).map V.cl=(cell1 c).map .cl;cases c<;>first|rfl|(exfalso;simp at h)
theorem qye{P:Program}{β:Type}{E:Env}{w0:Base}{bl I0:Nat->Prop}{s:List (Nat×V)}{H:Heap}{a:Act}{w:World}{Im:Nat->Prop}{ρ:Nat->Loc}{e:Nat}{t:TypeId}{v:V}{av:Value}{k:CV->Upd->Option β}{r:β}(h:qc1 P H e t v k=some r)(hI:Inv E w0 bl I0 s H a w Im ρ)(hv:VRep w Im ρ (shOf H) v av):
  ∃c u Im',k c u=some r/\q0w e c=true/\Inv E w0 bl I0 s (updH H u) a w Im' ρ/\(∀b,Im b->Im' b)/\CRep w Im' c av/\(∀p,p∉reach H 4 v->qaj (updH H u) p=qaj H p)/\shOf (updH H u)=shOf H:=by
 unfold qc1 at h;split at h
 ·rename_i c hc;replace h:=qaa h;obtain⟨he,h⟩:=h;obtain⟨Im',h1,h2,h3,h4⟩:=Inv.lockAll (reach H 4 v) H Im hI fun q o hq=>⟨o,hq,rfl⟩;exact⟨c,_,Im',h,he,h1,h2,qgy P hI.gam.ob h2 4 t v c av hc hv h3,fun p hp=>qee _ _ hp,h4⟩
 ·cases h
theorem qo3{w:World}{Im:Nat->Prop}{ρ:Nat->Loc}{S:Nat->Option Sh}{e:Nat}{c:CV}{av:Value}(h:q0w e c=true)(hc:CRep w Im c av):
  Reps w Im ρ S ((cell1 c).map .cl) av.cells.toList:=by
 obtain⟨h1,_⟩:=qe8 h;obtain⟨g1,g3,g2⟩:=qh5 (ρ:=ρ) (S:=S) (.cl c av hc) rfl;rw[h1] at g1 g2;exact⟨g1,g3,g2⟩
theorem q35{l:List Nat}{p:Nat}(h:l.all (fun q=> !(Nat.beq q p))=true):p∉l:=by intro hp;have:=zai.1 h p hp;simp[zbk] at this
theorem q2d{P:Program}{β:Type}{E:Env}{w0:Base}{bl I0:Nat->Prop}{s:List (Nat×V)}{H:Heap}{a:Act}{w:World}{Im:Nat->Prop}{ρ:Nat->Loc}{t:TypeId}{x v:V}{ax av:Value}{k:Upd->Option β}{r:β}(h:qmo P H t x v k=some r)(hI:Inv E w0 bl I0 s H a w Im ρ)(hx:VRep w Im ρ (shOf H) x ax)(hv:VRep w Im ρ (shOf H) v av):
  ∃u w' Im',k u=some r/\(Instr.storeAt t ax av).run P w=.ok () w'/\Inv E w0 bl I0 s (updH H u) a w' Im' ρ:=by
 unfold qmo at h;replace h:=qaa h;obtain⟨hinfo,h⟩:=h;split at h
 ·rename_i p n e;split at h
  ·rename_i m ka l m' kb l' hp;replace h:=qaa h;obtain⟨hc,h⟩:=h;simp only[zab] at hc;obtain⟨⟨hk,hm⟩,hsz⟩:=hc;obtain rfl:ka=kb:=of_decide_eq_true hk;obtain rfl:=qag.1 hm;have hsz:=qag.1 hsz;have hS:shOf H p=some (shp ⟨.arri m ka l,false⟩):=by simp[shOf,hp]
   cases hx with
   | aptrN _ _ _ _ h0=>rw[hS] at h0;cases h0
   | aptr _ _ _ b base lim h1 h2=>
    have hok:=h2▸hI.gam.ob p _ hp;have hl:l.length=m:=hok.1
    cases hv.closed with
    | aggi _ _ _ hl'=>
     obtain⟨w',h3,h4⟩:=qk7 (P:=P) (t:=t) (q:=0) (row':=.arri m ka l') (x:=.agg (l'.map (.int ka)).toArray) (C:=l'.map fun n=>.cl (.int ka n)) hI hp h2 rfl hl' hinfo (by simp;omega)
      ⟨by simp[Value.cells],by simp[Value.cells,oneC],fun j c v hj hv=>by
       simp at hj;obtain⟨n,hn,rfl⟩:=hj;simp[Value.cells,hn] at hv;subst hv;exact .ofInt _ _⟩ (by simp[qaf];omega) (by simp[qaf];omega) (fun j=>by
       by_cases hj:j<l'.length
       ·rw[if_pos (by simp;omega)];simp[qaf]
       ·rw[if_neg (by simp;omega)];rw[zay (by simp[qaf];omega),zay (by simp[qaf];omega)])
     exact⟨_,w',Im,h,by simpa using h3,h4⟩
  ·rename_i m es l m' es' l' hp;replace h:=qaa h;obtain⟨hc,h⟩:=h;simp only[zab] at hc;obtain⟨⟨hk,hm⟩,hsz⟩:=hc;obtain rfl:=qag.1 hk;obtain rfl:=qag.1 hm;have hsz:=qag.1 hsz;have hS:shOf H p=some (shp ⟨.arrg m es l,false⟩):=by simp[shOf,hp]
   cases hx with
   | aptrN _ _ _ _ h0=>rw[hS] at h0;cases h0
   | aptr _ _ _ b base lim h1 h2=>
    have hok:=h2▸hI.gam.ob p _ hp;have hl:l.length=m/\∀c∈l,(cell1 c).length=es:=hok.1;have hfl:(l.flatMap cell1).length=m*es:=by rw[qbr hl.2,hl.1]
    cases hv.closed with
    | agga _ _ _ vs g1 g2 g3 g5 g4=>
     have hfl':(l'.flatMap cell1).length=m*es:=by rw[qbr g2,g1]
     obtain⟨w',h3,h4⟩:=qk7 (P:=P) (t:=t) (q:=0) (row':=.arrg m es l') (x:=.agg vs.toArray) (C:=(l'.flatMap cell1).map .cl) hI hp h2 rfl ⟨g1,g2⟩ hinfo (by simp only[zam];omega)
      ⟨by simp only[Value.cells,zam];exact g3,by simpa [Value.cells] using g5,fun j c v hj hv=>by
       rw[zaj] at hj
       cases hd:(l'.flatMap cell1)[j]? with
       | none=>rw[hd] at hj;cases hj
       | some d=>
        rw[hd] at hj;simp only[zap,zaa] at hj;subst hj;exact .cl _ _ (g4 j d v hd (by simpa [Value.cells] using hv))⟩ (by simp only[qaf,zam];omega) (by simp only[qaf,zam];omega) (fun j=>by
       by_cases hj:j<m*es
       ·rw[if_pos (by simp only[zam];omega)];simp[qaf]
       ·rw[if_neg (by simp only[zam];omega)];rw[zay (by simp only[qaf,zam];omega),zay (by simp only[qaf,zam];omega)])
     exact⟨_,w',Im,h,by simpa using h3,h4⟩
  ·cases h
 ·rename_i p i o;split at h
  ·rename_i row hp;have hS:shOf H p=some (shp ⟨row,false⟩):=by simp[shOf,hp]
   cases hx with
   | ptrN _ _ _ _ h0=>rw[hS] at h0;cases h0
   | ptr _ _ _ sh b base lim h1 h2 hi=>
    rw[hS] at h1;simp only[zaa] at h1;subst h1;have hok:=h2▸hI.gam.ob p _ hp;split at h
    ·rename_i ka l;split at h
     ·rename_i kb n;replace h:=qaa h;obtain⟨hc,h⟩:=h;simp only[zab] at hc;obtain⟨⟨hk,ho⟩,hsz⟩:=hc;obtain rfl:ka=kb:=of_decide_eq_true hk;obtain rfl:=qag.1 ho;have hsz:=qag.1 hsz;obtain rfl:=hv.int;have hil:i<l.length:=hi;obtain⟨w',h3,h4⟩:=qk7 (P:=P) (t:=t) (q:=i) (row':=.ints ka (l.set i n)) (x:=.int ka n) (C:=[.cl (.int ka n)]) hI hp h2 (by simp[shp,Rw.len,Rw.esz,q6u]) trivial hinfo (by simp[hsz])
       ⟨rfl,by simp[Value.cells,oneC],fun j c v hj hv=>by
        cases j with
        | zero=>simp[Value.cells] at hj hv;subst hj hv;exact .ofInt _ _
        | succ j=>simp at hj⟩ (by simp[qaf];omega) (by simp[qaf]) (fun j=>by
        simp only[qaf,zaj,xbj6 l i n j hil,zbu];split
        ·rename_i hj;have:j=i:=by omega
         subst this;simp
        ·rfl)
      exact⟨_,w',Im,h,by simpa [shp,Rw.esz] using h3,h4⟩
     ·cases h
    ·rename_i m ka l;split at h
     ·rename_i kb n;replace h:=qaa h;obtain⟨hc,h⟩:=h;simp only[zab] at hc;obtain⟨⟨hk,ho⟩,hsz⟩:=hc;obtain rfl:ka=kb:=of_decide_eq_true hk;obtain rfl:=qag.1 ho;have hsz:=qag.1 hsz;obtain rfl:=hv.int;have hlm:l.length=m:=hok.1;have hil:i<l.length:=by rw[hlm];exact hi
      obtain⟨w',h3,h4⟩:=qk7 (P:=P) (t:=t) (q:=i) (row':=.arri m ka (l.set i n)) (x:=.int ka n) (C:=[.cl (.int ka n)]) hI hp h2 (by simp[shp,Rw.len,Rw.esz,q6u]) (by simpa [okR] using hlm) hinfo (by simp[hsz])
       ⟨rfl,by simp[Value.cells,oneC],fun j c v hj hv=>by
        cases j with
        | zero=>simp[Value.cells] at hj hv;subst hj hv;exact .ofInt _ _
        | succ j=>simp at hj⟩ (by simp[qaf];omega) (by simp[qaf]) (fun j=>by
        simp only[qaf,zaj,xbj6 l i n j hil,zbu];split
        ·rename_i hj;have:j=i:=by omega
         subst this;simp
        ·rfl)
      exact⟨_,w',Im,h,by simpa [shp,Rw.esz] using h3,h4⟩
     ·cases h
    ·rename_i e l;replace h:=qaa h;obtain⟨hc,h⟩:=h;simp only[zab] at hc;obtain⟨⟨ho,he⟩,hr⟩:=hc;obtain rfl:=qag.1 ho;have he:=qag.1 he;obtain⟨c,u,Im',h1',h2',hI',him,hcr,hg,hsh⟩:=qye h hI hv;have hp':=(hg p (q35 hr)).trans hp;have hce:=(qe8 h2').2;have hu: ∀d∈l,(cell1 d).length=e:=hok.1;have hil:i<l.length:=hi;have hset: ∀d∈l.set i c,(cell1 d).length=e:=fun d hd=>by
      rcases List.mem_or_eq_of_mem_set hd with hd|rfl
      ·exact hu d hd
      ·exact hce
     obtain⟨w',h3,h4⟩:=qk7 (P:=P) (t:=t) (q:=i*e) (row':=.gen e (l.set i c)) (x:=av) (C:=(cell1 c).map .cl) hI' hp' h2 (by simp[shp,Rw.len,Rw.esz,q6u])
      hset hinfo (by simp;omega) (qo3 h2' hcr)
      (by simp only[qaf,zam];rw[hce,qbr hu];have:=zce e (zdf hil);rw[zcu] at this;exact this)
      (by simp only[qaf,zam];rw[qbr hu,qbr hset];simp)
      (fun j=>by
       simp only[qaf,zaj,zam,qu0 j hu hil hce,hce];split<;>rfl)
     exact⟨_,w',Im',h1',by simpa [shp,Rw.esz] using h3,by rw[qe5];exact h4⟩
    ·rename_i m e l;replace h:=qaa h;obtain⟨hc,h⟩:=h;simp only[zab] at hc;obtain⟨⟨ho,he⟩,hr⟩:=hc;obtain rfl:=qag.1 ho;have he:=qag.1 he;obtain⟨c,u,Im',h1',h2',hI',him,hcr,hg,hsh⟩:=qye h hI hv;have hp':=(hg p (q35 hr)).trans hp;have hce:=(qe8 h2').2;have hu: ∀d∈l,(cell1 d).length=e:=hok.1.2;have hlm:l.length=m:=hok.1.1;have hil:i<l.length:=by rw[hlm];exact hi
     have hset: ∀d∈l.set i c,(cell1 d).length=e:=fun d hd=>by
      rcases List.mem_or_eq_of_mem_set hd with hd|rfl
      ·exact hu d hd
      ·exact hce
     obtain⟨w',h3,h4⟩:=qk7 (P:=P) (t:=t) (q:=i*e) (row':=.arrg m e (l.set i c)) (x:=av) (C:=(cell1 c).map .cl) hI' hp' h2 (by simp[shp,Rw.len,Rw.esz,q6u])
      ⟨by simpa using hlm,hset⟩ hinfo (by simp;omega) (qo3 h2' hcr)
      (by simp only[qaf,zam];rw[hce,qbr hu];have:=zce e (zdf hil);rw[zcu] at this;exact this)
      (by simp only[qaf,zam];rw[qbr hu,qbr hset];simp)
      (fun j=>by
       simp only[qaf,zaj,zam,qu0 j hu hil hce,hce];split<;>rfl)
     exact⟨_,w',Im',h1',by simpa [shp,Rw.esz] using h3,by rw[qe5];exact h4⟩
    ·rename_i l;replace h:=qaa h;obtain⟨hc,h⟩:=h;simp only[zab] at hc;obtain⟨⟨⟨hok',hsz⟩,hle⟩,hi0⟩:=hc;have hsz:=qag.1 hsz;obtain rfl:=qag.1 hi0;have hle:o+qaq P t<=l.length:=by simpa using hle
     obtain⟨g1,g3,g2⟩:=qh5 hv hok';obtain⟨w',h3,h4⟩:=qk7 (P:=P) (t:=t) (q:=o) (row':=.var (qhs l o (qd7 v))) (x:=av) (C:=qd7 v) hI hp h2 (by simp[shp,Rw.len,Rw.esz,q6u,qey]) trivial hinfo hsz
      ⟨g1,g3,g2⟩ (by simp only[qaf];omega) (by simp only[qaf];rw[qey]) (fun j=>by
       simp only[qaf];rw[qj8 _ _ _ _ (by omega)])
     exact⟨_,w',Im,h,by simpa using h3,h4⟩
  ·cases h
 ·cases h
def Does(P:Program)(E:Env)(w0:Base)(bl I0:Nat->Prop)(s:List (Nat×V))(H:Heap)(a:Act)(w:World){β:Type}(k:V->Upd->Option β)(r:β)(run:Sem Value):Prop:=
 ∃v u val w' Im' ρ',k v u=some r/\run.run P w=.ok val w'/\Inv E w0 bl I0 s (updH H u) a w' Im' ρ'/\VRep w' Im' ρ' (shOf (updH H u)) v val
theorem Inv.step{E:Env}{w0:Base}{bl bl' I0:Nat->Prop}{s:List (Nat×V)}{H:Heap}{a:Act}{w w':World}{Im:Nat->Prop}{ρ:Nat->Loc}(h:Inv E w0 bl I0 s H a w Im ρ)(hf:Fr w bl' w')(hb: ∀b,bl' b->b<w.heap.size-> ¬Im b/\(bl b\/w0.w.heap.size<=b))(ho: ∀p o b x y,qaj H p=some o->ρ p=some (b,x,y)-> ¬bl' b):
  Inv E w0 bl I0 s H a w' Im ρ:=by
 have hk:Keep Im w w':=fun b hi=>hf.block b (h.gam.im b hi) fun hx=>(hb b hx (h.gam.im b hi)).1 hi;have hv: ∀v x,VRep w Im ρ (shOf H) v x->VRep w' Im ρ (shOf H) v x:=fun v x hx=>hx.congr hk (fun _ h=>h) fun q _=>.inr ⟨rfl,rfl⟩;refine⟨⟨fun b hi=>by have:=h.gam.im b hi;have:=hf.size;omega,h.gam.i0,fun p o hp=> ?_,h.gam.dj,fun p o b x y hp hr=> ?_,h.gam.imo⟩,
  ⟨hf.os.trans h.fr.os,hf.tape.trans h.fr.tape,hf.output.trans h.fr.output,zby h.fr.size hf.size,fun b hlt hn=> ?_⟩,
  fun t=>hv _ _ (h.sl t),h.nt,h.df.keep hk (fun _ h=>h),fun g c hg=>(h.gl g c hg).keep hk (fun _ h=>h),h.st⟩
 ·exact ORep.congr (h.gam.ob p o hp) (fun b x y hr=>hf.block b (by have:=h.gam.ob p o hp;rw[hr] at this;exact this.lt) (ho p o b x y hp hr)) fun j c x hj hx=>hv _ _ hx
 ·have:=h.gam.lk p o b x y hp hr;exact⟨zbg this.1 hf.size,this.2⟩
 ·have hlt':b<w.heap.size:=zbg hlt h.fr.size;rw[hf.block b hlt' fun hx=> ?_]
  ·exact h.fr.block b hlt hn
  ·rcases(hb b hx hlt').2 with h1|h1
   ·exact hn h1
   ·omega
theorem Inv.placeG{E:Env}{w0:Base}{bl I0:Nat->Prop}{s:List (Nat×V)}{H:Heap}{a:Act}{w:World}{Im:Nat->Prop}{ρ:Nat->Loc}(h:Inv E w0 bl I0 s H a w Im ρ){p:Nat}(hf:Free p s H){r:Rw}{b base lim:Nat}{lk:Bool}(hlt:b<w.heap.size)(hn:lk=true->Im b)(hbl:lk=false-> ¬Im b/\(bl b\/w0.w.heap.size<=b))(hex: ∀q o x y,qaj H q=some o->ρ q=some (b,x,y)->lk=true/\o.lock=true)(hok:okR r)(hlen:(qaf r).length<=lim)(hfr: ∀i,i<lim->(w.cell? ⟨b,base+i,none⟩).isSome=true/\w.frozen? ⟨b,base+i,none⟩=false)(hm: ∀l,r=.var l->qmq p l=false)(hc: ∀(j:Nat) (c:V),(qaf r)[j]? =some c->∃v:Value,w.cell? ⟨b,base+j,none⟩=some v/\oneC v=true/\VRep w Im ρ (shOf H) c v):
  Inv E w0 bl I0 s (qct H p ⟨r,lk⟩) a w Im (put ρ p (some (b,base,lim))):=by
 have hv: ∀v x,qdj p v=false->VRep w Im ρ (shOf H) v x->VRep w Im (put ρ p (some (b,base,lim))) (shOf (qct H p ⟨r,lk⟩)) v x:=fun v x hn hx=>
  hx.congr (fun _ _=>rfl) (fun _ h=>h) fun q hq=>.inr ⟨by rw[qda,if_neg (fun e=>by subst e;rw[hn] at hq;cases hq)],by unfold put;rw[if_neg (fun e=>by subst e;rw[hn] at hq;cases hq)]⟩
 refine⟨⟨h.gam.im,h.gam.i0,fun q o hq=> ?_,fun q q' o o' c x y x' y' hq hq' hr hr' hne=> ?_,fun q o c x y hq hr=> ?_,h.gam.imo⟩,h.fr,
  fun t=>hv _ _ (hf.sl t) (h.sl t),h.nt,h.df,h.gl,fun j o hj hg=>by
   rw[qau] at hg;have hb:=hf.big;rw[if_neg (by omega)] at hg;unfold put;rw[if_neg (by omega)];exact h.st j o hj hg⟩
 ·rw[qau] at hq;by_cases e:q=p
  ·subst e;simp only[if_true,zaa] at hq;subst hq;unfold put;rw[if_pos rfl];exact⟨hok,hlt,hlen,hfr,fun j c hj=>let ⟨v,g1,g2,g3⟩:=hc j c hj;⟨v,g1,g2,hv _ _ (qcz hm hj) g3⟩⟩
  ·rw[if_neg e] at hq;unfold put;rw[if_neg e];exact ORep.congr (h.gam.ob q o hq) (fun _ _ _ _=>rfl) fun j c x hj hx=>hv _ _ (qcz (hf.ob q o hq) hj) hx
 ·rw[qau] at hq hq';unfold put at hr hr';by_cases e:q=p
  ·rw[if_pos e] at hr hq;by_cases e':q'=p
   ·exact absurd (e.trans e'.symm) hne
   ·rw[if_neg e'] at hr' hq';simp only[zaa,zbb] at hr hq;obtain⟨rfl,_,_⟩:=hr;subst hq;exact hex q' o' x' y' hq' hr'
  ·rw[if_neg e] at hr hq;by_cases e':q'=p
   ·rw[if_pos e'] at hr' hq';simp only[zaa,zbb] at hr' hq';obtain⟨rfl,_,_⟩:=hr';subst hq';exact(hex q o x y hq hr).symm
   ·rw[if_neg e'] at hr' hq';exact h.gam.dj q q' o o' c x y x' y' hq hq' hr hr' hne
 ·rw[qau] at hq;unfold put at hr;by_cases e:q=p
  ·rw[if_pos e] at hr hq;simp only[zaa,zbb] at hr hq;obtain⟨rfl,_,_⟩:=hr;subst hq;exact⟨hlt,hn,hbl⟩
  ·rw[if_neg e] at hr hq;exact h.gam.lk q o c x y hq hr
theorem Inv.place{E:Env}{w0:Base}{bl I0:Nat->Prop}{s:List (Nat×V)}{H:Heap}{a:Act}{w:World}{Im:Nat->Prop}{ρ:Nat->Loc}(h:Inv E w0 bl I0 s H a w Im ρ){p:Nat}(hf:Free p s H){r:Rw}{b base lim:Nat}(hlt:b<w.heap.size)(hn: ¬Im b)(hbl:bl b\/w0.w.heap.size<=b)(hex: ∀q o x y,qaj H q=some o->ρ q≠some (b,x,y))(hok:okR r)(hlen:(qaf r).length<=lim)(hfr: ∀i,i<lim->(w.cell? ⟨b,base+i,none⟩).isSome=true/\w.frozen? ⟨b,base+i,none⟩=false)(hm: ∀l,r=.var l->qmq p l=false)(hc: ∀(j:Nat) (c:V),(qaf r)[j]? =some c->∃v:Value,w.cell? ⟨b,base+j,none⟩=some v/\oneC v=true/\VRep w Im ρ (shOf H) c v):
  Inv E w0 bl I0 s (qct H p ⟨r,false⟩) a w Im (put ρ p (some (b,base,lim))):=
 h.placeG (lk:=false) hf hlt (fun h=>by cases h) (fun _=>⟨hn,hbl⟩) (fun q o x y hq hr=>absurd hr (hex q o x y hq)) hok hlen hfr hm hc
theorem xbm1{E:Env}{p:Nat}{s:List (Nat×V)}{H:Heap}(hf:Free p s H)(x:Operand):qdj p (opd E s x)=false:=by
 cases x with
 | tmp t=>exact hf.sl t
 | const v=>show qdj p (qnv v)=false;unfold qnv;split<;>rfl
 | func f=>rfl
 | global g=>show qdj p (match E.glob g with|some c=>.cl (.vp c 0 0)|none=>.undef)=false;split<;>rfl
theorem qqy{p:Nat}: ∀l:List CV,qmq p (l.map .cl)=false
 | []=>rfl
 | c::r=>by simp[qmq,qdj,qqy r]
theorem q6i{p:Nat}{v:V}(h:qdj p v=false):qmq p (qd7 v)=false:=by
 unfold qd7;split
 ·simpa [qdj] using h
 ·exact qqy _
 ·simp[qmq,h]
theorem qs3(p:Nat)(v:Value):qdj p (qnv v)=false:=by unfold qnv;split<;>rfl
theorem xbbd{p:Nat}{l:List V}(h:qmq p l=false):qdj p (mkAgg l)=false:=by
 unfold mkAgg;split
 ·rfl
 ·exact h
theorem xbbo{P:Program}{p:Nat}{t:TypeId}{l:List V}{v:V}(h:qv1 P t l=some v)(hl:qmq p l=false):qdj p v=false:=by
 unfold qv1 at h;split at h
 ·cases hb:Nat.beq l.length (qaq P t) with
  | false=>simp[hb] at h
  | true=>simp[hb] at h;subst h;exact xbbd hl
 ·split at h
  ·split at h
   ·replace h:=qaa h;have:=h.2;simp only[zaa] at this;subst this;rfl
   ·cases h
  ·cases h
 ·cases h
 ·split at h
  ·simp at h;subst h;simpa [qmq] using hl
  ·cases h
theorem xbei{P:Program}{t:TypeId}{z:V}(h:q7t P t=some z)(p:Nat):qdj p z=false:=by
 unfold q7t at h;split at h
 ·split at h
  ·replace h:=qaa h;refine xbbo h.2 (q3y fun v hv=> ?_);obtain⟨x,_,rfl⟩:=za7.1 hv;exact qs3 p x
  ·simp at h;subst h;exact qs3 p _
  ·cases h
 ·cases h
theorem xbst{w:World}{Im:Nat->Prop}{ρ:Nat->Loc}{H:Heap}{pos:Nat}{r:Rw}{b lim len cap e:Nat}(hg:q6u r=false)(he:r.esz=e)(hl:r.len=len)(hc:len<=cap)(hm:cap*e<=lim):
  VRep w Im (put ρ pos (some (b,0,lim))) (shOf (qct H pos ⟨r,false⟩)) (.ref pos 0 len true e) (.slice (some ⟨b,0,none⟩) len cap):=by
 refine .ref pos 0 len true e (shp ⟨r,false⟩) b 0 lim _ cap (by rw[qda,if_pos rfl]) (by simp[put]) he hc (by simp[shp,hl]) (fun _=>by simp[shp,hl]) (fun _=>by simp) (by simp;exact hm)
theorem qsx{P:Program}{β:Type}{E:Env}{w0:Base}{bl I0:Nat->Prop}{s:List (Nat×V)}{H:Heap}{a:Act}{w:World}{Im:Nat->Prop}{ρ:Nat->Loc}{t:TypeId}{v:V}{av:Value}{pos:Nat}{k:V->Upd->Option β}{r:β}(h:qok P t v (fun r=>k (xbo0 pos r) [(pos,some ⟨r,false⟩)])=some r)(hI:Inv E w0 bl I0 s H a w Im ρ)(hf:Free pos s H)(hv:VRep w Im ρ (shOf H) v av)(hmv:qdj pos v=false):
  Does P E w0 bl I0 s H a w k r (do pure (.pointer (some (<- newVar t av)))):=by
 have hrun:(do pure (Value.pointer (some (<- newVar t av))):Sem Value).run P w=.ok (.pointer (some ⟨w.heap.size,0,none⟩)) (w.alloc (.cells av.cells t)):=by simp[newVar,newRow]
 have key: ∀row:Rw,k (xbo0 pos row) [(pos,some ⟨row,false⟩)]=some r->okR row->(∀l,row=.var l->qmq pos l=false)->Reps w Im ρ (shOf H) (qaf row) av.cells.toList->growing row=false->
   Does P E w0 bl I0 s H a w k r (do pure (.pointer (some (<- newVar t av)))):=by
  intro row hk hok hm hreps hgr;obtain⟨x1,x2,x3⟩:=hreps;have hsz:av.cells.size=(qaf row).length:=by simpa using x1
  refine⟨xbo0 pos row,[(pos,some ⟨row,false⟩)],_,_,Im,put ρ pos (some (w.heap.size,0,av.cells.size)),hk,hrun,
   hI.alloc hf (r:=row) (cs:=av.cells) (el:=t) (fr:=(0,0)) rfl rfl rfl rfl hok (by omega) (fun i hi hc=>by omega) hm fun j c hj=> ?_, ?_⟩
  ·have hjl:j<av.cells.toList.length:=by have:=(zad.1 hj).1;omega
   have hg:=zae hjl;exact⟨_,by simp,x2 _ (zch hjl),x3 j c _ hj hg⟩
  ·show VRep _ _ _ (shOf (qct H pos ⟨row,false⟩)) _ _;have hS:shOf (qct H pos ⟨row,false⟩) pos=some (shp ⟨row,false⟩):=by rw[qda,if_pos rfl]
   have hput:put ρ pos (some (w.heap.size,0,av.cells.size)) pos=some (w.heap.size,0,av.cells.size):=by simp[put]
   cases row with
   | ints k l=>cases hgr
   | gen e l=>cases hgr
   | arri n k l=>exact .aptr pos n 1 _ 0 _ hS hput
   | arrg n e l=>exact .aptr pos n e _ 0 _ hS hput
   | var l=>simpa [xbo0] using VRep.ptr (w:=w.alloc (.cells av.cells t)) (Im:=Im) pos 0 0 _ _ 0 _ hS hput (by simp[shp,Rw.len])
 unfold qok at h;split at h
 ·rename_i n e m ka l _;refine key _ h ?_ (by simp) ?_ rfl
  ·cases hv.closed with|aggi _ _ _ hl=>exact hl
  ·cases hv.closed with
   | aggi _ _ _ hl=>exact⟨by simp[Value.cells,qaf],by simp[Value.cells,oneC],fun j c v hj hv=>by
     simp[qaf] at hj;obtain⟨n,hn,rfl⟩:=hj;simp[Value.cells,hn] at hv;subst hv;exact .ofInt _ _⟩
 ·rename_i n e m es l _
  cases hv.closed with
  | agga _ _ _ vs g1 g2 g3 g5 g4=>
   refine key _ h ⟨g1,g2⟩ (by simp) ⟨by simp[Value.cells,qaf,g3],by simpa [Value.cells] using g5,fun j c v hj hv=> ?_⟩ rfl;simp only[qaf,zaj] at hj
   cases hd:(l.flatMap cell1)[j]? with
   | none=>rw[hd] at hj;cases hj
   | some d=>
    rw[hd] at hj;simp only[zap,zaa] at hj;subst hj;exact .cl _ _ (g4 j d v hd (by simpa [Value.cells] using hv))
 ·cases h
 ·cases h
 ·replace h:=qaa h;obtain⟨hok,h⟩:=h;refine key _ h trivial (fun l hl=>by cases hl;exact q6i hmv) ?_ rfl;obtain⟨g1,g3,g2⟩:=qh5 hv hok;exact⟨g1,g3,g2⟩
theorem quz{e:Nat}{zc:CV}(he:(cell1 zc).length=e)(n j:Nat):((List.replicate n zc).flatMap cell1)[j]? =if j<n*e then(cell1 zc)[j % e]? else none:=by
 have hl: ∀c∈List.replicate n zc,(cell1 c).length=e:=fun c hc=>by rw[List.eq_of_mem_replicate hc,he]
 by_cases hj:j<n*e
 ·rw[if_pos hj];have he0:0<e:=by
   rcases Nat.eq_zero_or_pos e with h0|h0
   ·subst h0;omega
   ·exact h0
  have hq:j/ e<n:=(Nat.div_lt_iff_lt_mul he0).2 hj;have:=qm3 (f:=cell1) (e:=e) (l:=List.replicate n zc) (i:=j/ e) (c:=zc) (j % e) hl (by simp[hq]) (zdp _ he0);rwa [Nat.mul_comm,Nat.div_add_mod] at this
 ·rw[if_neg hj,zay];rw[qbr hl,List.length_replicate];omega
theorem q5j{P:Program}{t:TypeId}{z:V}(h:q7t P t=some z): ∃i,P.info? t=some i/\(∃z',i.zero=some z')/\i.size=qaq P t:=by
 unfold q7t at h;split at h
 ·rename_i i hi;refine⟨i,hi, ?_,by simp[qaq,hi]⟩;split at h
  ·rename_i cs hz;exact⟨_,hz⟩
  ·rename_i v _ hz;exact⟨_,hz⟩
  ·cases h
 ·cases h
def w00:World:=default
theorem qgt{P:Program}{e:TypeId}{n:Nat}{row:Rw}(h:qr1 P e n=some row):
  ∃i z,P.info? e=some i/\i.zero=some z/\i.size=qaq P e/\z.cells.size=qaq P e/\qaq P e≠0/\okR row/\q6u row=false/\growing row=true/\row.esz=qaq P e/\row.len=n/\(qaf row).length=n*qaq P e/\
   (∀l,row≠.var l)/\∀(w:World) (Im:Nat->Prop) (ρ:Nat->Loc) (S:Nat->Option Sh) (j:Nat) (c:V),(qaf row)[j]? =some c->∃v,z.cells[j % qaq P e]? =some v/\oneC v=true/\VRep w Im ρ S c v:=by
 unfold qr1 at h;split at h
 ·cases h
 ·rename_i z hz;split at h
  ·rename_i ki hk;split at h
   ·rename_i kb z0;replace h:=qaa h;obtain⟨hc,h⟩:=h;simp only[zab] at hc;obtain⟨⟨h1,h2⟩,h3⟩:=hc;obtain rfl:ki=kb:=of_decide_eq_true h1;obtain rfl:z0=0:=of_decide_eq_true h2;have h3:=qag.1 h3;simp only[zaa] at h;subst h;obtain⟨i,hi,hzi,hsi⟩:=q5j hz;obtain⟨val,hv,hrun⟩:=qr3 (P:=P) (w:=w00) (Im:=fun _=>False) (ρ:=fun _=>none) (S:=fun _=>none) hz;obtain⟨z',hz'⟩:=hzi;have:val=z':=by simp[zeroValue,typeInfo,hi,hz'] at hrun;exact hrun.symm
    subst this;obtain rfl:=hv.int;refine⟨i,_,hi,hz',hsi,by simp[Value.cells,h3],by omega,trivial,rfl,rfl,by simp[Rw.esz,h3],by simp[Rw.len],by simp[qaf,h3],fun _=>by simp,fun w Im ρ S j c hj=> ?_⟩;simp[qaf,List.getElem?_replicate] at hj;obtain⟨n',⟨_,rfl⟩,rfl⟩:=hj;exact⟨_,by simp[Value.cells,h3,Nat.mod_one],rfl,.ofInt _ _⟩
   ·cases h
  ·split at h
   ·rename_i zc hcl;replace h:=qaa h;obtain⟨hc,h⟩:=h;simp only[zab,zao] at hc;obtain⟨h1,h2⟩:=hc;have h2:=qa7 h2;simp only[zaa] at h;subst h;obtain⟨i,hi,hzi,hsi⟩:=q5j hz;obtain⟨z',hz'⟩:=hzi;have hce:=(qe8 h1).2;have hval: ∀(w:World) (Im:Nat->Prop),CRep w Im zc z':=fun w Im=>by
     obtain⟨val,hv,hrun⟩:=qr3 (P:=P) (w:=w) (Im:=Im) (ρ:=fun _=>none) (S:=shOf []) hz;have:val=z':=by simp[zeroValue,typeInfo,hi,hz'] at hrun;exact hrun.symm
     subst this;exact qgy P (H:=[]) (fun p o hp=>by cases hp) (fun _ h=>h) 4 e z zc val hcl hv fun p _ o hp=>by cases hp
    have hsz:z'.cells.size=qaq P e:=by have:=(qo3 (ρ:=fun _=>none) (S:=fun _=>none) h1 (hval w00 fun _=>False)).1;simp at this;omega
    refine⟨i,z',hi,hz',hsi,hsz,h2,fun c hc=>by rw[List.eq_of_mem_replicate hc,hce],rfl,rfl,rfl,by simp[Rw.len], ?_,fun _=>by simp,fun w Im ρ S j c hj=> ?_⟩
    ·simp only[qaf,zam];rw[qbr (e:=qaq P e) (fun c hc=>by rw[List.eq_of_mem_replicate hc,hce])];simp
    ·obtain⟨g1,g2,g3⟩:=qo3 (ρ:=ρ) (S:=S) h1 (hval w Im);simp only[qaf,zaj,quz hce] at hj;have hlt:j % qaq P e<z'.cells.toList.length:=by have:=zdp j (zdd h2);simp;omega
     have hg:=zae hlt;refine⟨_,by simp,g2 _ (zch hlt), ?_⟩;split at hj
     ·cases hd:(cell1 zc)[j % qaq P e]? with
      | none=>rw[hd] at hj;cases hj
      | some d=>
       rw[hd] at hj;simp only[zap,zaa] at hj;subst hj;exact g3 (j % qaq P e) (.cl d) _ (by simp[hd]) hg
     ·cases hj
   ·cases h
theorem qwf{P:Program}{β:Type}{E:Env}{w0:Base}{bl I0:Nat->Prop}{s:List (Nat×V)}{H H1:Heap}{a:Act}{w w':World}{Im:Nat->Prop}{ρ:Nat->Loc}{pos:Nat}{k:V->Upd->Option β}{r:β}(hI:Inv E w0 bl I0 s H1 a w Im ρ)(hf:Free pos s H1){row:Rw}{cs:Array Value}{el:TypeId}{fr:Nat×Nat}{run:Sem Value}{len cap e:Nat}{u:Upd}(hk:k (.ref pos 0 len true e) u=some r)(hu:updH H u=qct H1 pos ⟨row,false⟩)(hrun:run.run P w=.ok (.slice (some ⟨w.heap.size,0,none⟩) len cap) w')(hh:w'.heap=w.heap.push (.cells cs el fr))(h1:w'.os=w.os)(h2:w'.tape=w.tape)(h3:w'.output=w.output)(hok:okR row)(hg:growing row=true)(hl:row.len=len)(he:row.esz=e)(hlc:len<=cap)(hcap:cap*e<=cs.size)(hlen:(qaf row).length<=cs.size)(hfr: ∀i,i<cs.size-> ¬(fr.1<=i/\i<fr.2))(hc: ∀(j:Nat) (c:V),(qaf row)[j]? =some c->∃v:Value,cs[j]? =some v/\oneC v=true/\VRep w Im ρ (shOf H1) c v):Does P E w0 bl I0 s H a w k r run:=by
 refine⟨_,u,_,w',Im,put ρ pos (some (w.heap.size,0,cs.size)),hk,hrun, ?_, ?_⟩
 ·rw[hu];exact hI.alloc hf hh h1 h2 h3 hok hlen hfr (fun l e=>by subst e;cases hg) hc
 ·rw[hu];exact xbst (by cases row<;>first|rfl|cases hg) he hl hlc hcap
theorem qvr{P:Program}{β:Type}{E:Env}{w0:Base}{bl I0:Nat->Prop}{s:List (Nat×V)}{H:Heap}{a:Act}{w:World}{Im:Nat->Prop}{ρ:Nat->Loc}{t:TypeId}{n c:V}{an ac:Value}{pos:Nat}{k:V->Upd->Option β}{r:β}(h:qej P t pos n c k=some r)(hI:Inv E w0 bl I0 s H a w Im ρ)(hf:Free pos s H)(hn:VRep w Im ρ (shOf H) n an)(hc:VRep w Im ρ (shOf H) c ac):
  Does P E w0 bl I0 s H a w k r (Instr.makeSlice t an ac):=by
 unfold qej at h;split at h
 ·rename_i e kn n kc c hk;replace h:=qaa h;obtain⟨h1,h⟩:=h;replace h:=qaa h;obtain⟨h2,h⟩:=h;replace h:=qaa h;obtain⟨h3,h⟩:=h;replace h:=qaa h;obtain⟨h4,h⟩:=h;have h1:0<=n:=of_decide_eq_true h1;have h2:n<=c:=of_decide_eq_true h2;have h3:c*(qr7 P e:Int)<=LIM:=of_decide_eq_true h3;have h4:c<=LIM:=of_decide_eq_true h4;split at h
  ·rename_i row hrow;obtain⟨i,z,g1,g2,g3,g4,g5,g6,g7,g8,g9,g10,g11,g12,g13⟩:=qgt hrow;obtain rfl:=hn.int;obtain rfl:=hc.int;have hb:qr7 P e=i.bytes:=by simp[qr7,g1]
   have hr:=run_make (P:=P) w t e i z (qcd hk) g1 g2 kn kc n c h1 h2 (by rw[<- hb,Int.mul_comm];unfold LIM at h3;omega) (by unfold LIM at h4;omega);rw[g3] at hr;have hle:n.toNat*qaq P e<=c.toNat*qaq P e:=zce _ (by omega);refine qwf hI hf (row:=row) (cs:=madeCells z.cells (c.toNat*qaq P e)) (el:=e) (fr:=(0,0)) h rfl hr rfl rfl rfl rfl g6 g8 g10 g9 (by omega) (by rw[size_madeCells];omega) (by rw[size_madeCells,g11];exact hle) (fun i _ h=>by omega) fun j d hj=> ?_;have hjl:j<n.toNat*qaq P e:=by have:=(zad.1 hj).1;omega
   obtain⟨v,v1,v2,v3⟩:=g13 w Im ρ (shOf H) j d hj;refine⟨v, ?_,v2,v3⟩;have hlt:j<c.toNat*qaq P e:=by omega
   have hm:j % qaq P e<z.cells.size:=by rw[g4];exact zdp _ (zdd g5)
   rw[zbe hm] at v1;simp only[zaa] at v1;simp[madeCells,hlt,g4];rw[getElem!_pos z.cells _ hm,v1]
  ·cases h
 ·cases h
theorem q89(w:World)(e:TypeId)(b:ByteArray):(Lib.bytesWorld w e b).heap=w.heap.push (.cells (Lib.bytesCells w e b) e ((Lib.bytesCells w e b).size,(Lib.bytesCells w e b).size+1)):=by
 apply Array.ext_getElem?;intro j;rcases zdg j w.heap.size with h|h|h
 ·rw[Lib.bytesWorld_at_old w e b j h,zdk,if_neg (by omega)]
 ·subst h;rw[Lib.bytesWorld_at_new];simp
 ·rw[zcp (by rw[Lib.bytesWorld_size];omega),zcp (by simp;omega)]
theorem q87{P:Program}{β:Type}{E:Env}{w0:Base}{bl I0:Nat->Prop}{s:List (Nat×V)}{H:Heap}{a:Act}{w:World}{Im:Nat->Prop}{ρ:Nat->Loc}{src dst e:TypeId}{b:ByteArray}{pos:Nat}{k:V->Upd->Option β}{r:β}(h:k (.ref pos 0 (bytesOf b).length true 1) [(pos,some ⟨.ints .u8 (bytesOf b),false⟩)]=some r)(hI:Inv E w0 bl I0 s H a w Im ρ)(hf:Free pos s H)(hs:known P src=true)(hd:kd P dst=.slice e)(he:kd P e=.int .u8):Does P E w0 bl I0 s H a w k r (convert src dst (.string b)):=by
 obtain⟨u,hu⟩:=zbn.1 hs;have hr:=Lib.run_convert_string_bytes (P:=P) w src dst e b hu (qcd hd) (xbfm he);have hbl:(bytesOf b).length=b.size:=by simp[bytesOf]
 have hge:=grownCap_ge w b.size 0 e;have hcs:(Lib.bytesCells w e b).size=grownCap w b.size 0 e:=by have:b.data.size=b.size:=rfl;simp[Lib.bytesCells,this];omega
 rw[hbl] at h;refine qwf hI hf (row:=.ints .u8 (bytesOf b)) (cs:=Lib.bytesCells w e b) (el:=e) h rfl hr (q89 w e b) rfl rfl rfl trivial rfl (by simp[Rw.len,hbl]) rfl hge (by rw[hcs];omega) (by simp[qaf,hcs,hbl];exact hge) (fun i hi hc=>by simp at hc;omega) fun j c hj=> ?_;simp only[qaf,bytesOf,zcg,zaj] at hj
 cases hd:b.data.toList[j]? with
 | none=>rw[hd] at hj;cases hj
 | some x=>
  rw[hd] at hj;simp only[zap,zaa] at hj;subst hj;have hjl:j<b.data.size:=by have:=(zad.1 hd).1;simpa using this
  refine⟨.int .u8 x.toNat, ?_,rfl,.ofInt _ _⟩;have:b.data[j]? =some x:=by simpa using hd
  have hjs:j<b.size:=hjl;rw[zbe hjl] at this;simp only[zaa] at this;simp[Lib.bytesCells,Array.getElem?_append,hjs,this]
end Go.Proofs.YtoiikagnjcjccaaGreatDoorA
