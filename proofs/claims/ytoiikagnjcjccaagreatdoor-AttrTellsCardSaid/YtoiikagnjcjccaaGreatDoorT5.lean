/-
 The library's comparison of bytes: its contract holds. Conditions: none.
-/
import Derived.Test.YtoiikagnjcjccaaGreatDoorT4
import Derived.Lib.BytesEntry
import Derived.Test.YtoiikagnjcjccaaGreatDoorK3
import Derived.Shelf.Spec.SlicesGrow
set_option linter.unusedVariables false
set_option linter.unusedSimpArgs false
set_option maxRecDepth 100000
namespace Go.Proofs.YtoiikagnjcjccaaGreatDoorA
theorem q88{P:Program}{w:World}{Im:Nat->Prop}{l:List Int}{v:Value}(h:CRep w Im (.sli .u8 l) v):(Extern.Bytes.bytesOf v).run P w=.ok ⟨(Lib.bytesOf l).toArray⟩ w:=by
 cases h with
 | sli _ _ a len cap hl hc hcell=>
  cases a with
  | none=>
   have:l=[]:=by
    cases l with
    | nil=>rfl
    | cons x r=>obtain⟨ad,e,_⟩:=hcell 0 x rfl;cases e
   subst this;rfl
  | some ad=>
   subst hl;have:=Lib.run_loadBytesX (P:=P) w l ad .empty (fun j x hj=>by obtain⟨ad',e,_,hc⟩:=hcell j x hj;cases e;exact hc);refine this.trans ?_;congr 1;apply ByteArray.ext;show(#[]:Array UInt8)++(Lib.bytesOf l).toArray=(Lib.bytesOf l).toArray;simp
theorem q7n: ∀(a b:List Int),(∀x∈a,0<=x/\x<=255)->(∀x∈b,0<=x/\x<=255)->Lib.compareBytes (Lib.bytesOf a) (Lib.bytesOf b)=qan a b
 | [],[],_,_=>rfl
 | [],_::_,_,_=>rfl
 | _::_,[],_,_=>rfl
 | x::a,y::b,ha,hb=>by
  have ih:=q7n a b (fun z hz=>ha z (za2 _ hz)) (fun z hz=>hb z (za2 _ hz));have hx:=ha x (zbu ..);have hy:=hb y (zbu ..);have e1:(UInt8.ofNat x.toNat<UInt8.ofNat y.toNat)↔x<y:=by rw[UInt8.lt_iff_toNat_lt,zdd,zdd];omega
  have e2:(UInt8.ofNat y.toNat<UInt8.ofNat x.toNat)↔y<x:=by rw[UInt8.lt_iff_toNat_lt,zdd,zdd];omega
  show(if UInt8.ofNat x.toNat<UInt8.ofNat y.toNat then(-1:Int) else if UInt8.ofNat y.toNat<UInt8.ofNat x.toNat then 1 else Lib.compareBytes (Lib.bytesOf a) (Lib.bytesOf b))=(if x<y then -1 else if y<x then 1 else qan a b);simp only[e1,e2,ih]
theorem xbqf{P:Program}{w:World}{Im:Nat->Prop}{a b:List Int}{va vb:Value}(ha:CRep w Im (.sli .u8 a) va)(hb:CRep w Im (.sli .u8 b) vb)(h1: ∀x∈a,0<=x/\x<=255)(h2: ∀x∈b,0<=x/\x<=255):
  (Extern.BytealgCompare.compare #[va,vb]).run P w=.ok (.int .i64 (qan a b)) w:=by
 change Sem.run P (do pure (goInt (Extern.BytealgCompare.cmp (<- Extern.Bytes.bytesOf va) (<- Extern.Bytes.bytesOf vb)))) w=_;simp only[Sem.run_bind,Sem.run_pure,q88 ha,q88 hb,Result.andThen];rw[Lib.cmp_eq];show Result.ok (Value.int .i64 (Lib.compareBytes (Lib.bytesOf a) (Lib.bytesOf b))) w=_;rw[q7n a b h1 h2]
theorem qvd(hm:Tryz.prog.follows .mixedOrders=true):Sound Tryz.prog qa6 87 (fun xs obs=>cond (qg7 xs obs) (SBACompare xs obs).eval none):=by
 intro xs obs out w Im ρ bl vs hs hpre;obtain⟨h1,h2⟩:=qaa hs;unfold qg7 at h1;split at h1
 ·rename_i a b;simp only[zab] at h1;have h2:some (Out.ret [.cl (.int .i64 (qbf a b))] [])=some out:=h2;cases h2;have hl:vs.length=2:=hpre.reps.1
  match vs,hl,hpre with
  | [va,vb],_,hpre=>
   have ra:CRep w Im (.sli .u8 a) va:=by have:=hpre.reps.2 0 _ _ rfl rfl;cases this;assumption
   have rb:CRep w Im (.sli .u8 b) vb:=by have:=hpre.reps.2 1 _ _ rfl rfl;cases this;assumption
   refine .inr ⟨.int .i64 (qbf a b),w, ?_,[.int .i64 (qbf a b)],Im,ρ,rfl,⟨Fr.refl w bl,hpre.gam,fun j o o' hj=>by cases hj⟩,rfl,fun j c v hj hv=> ?_⟩
   ·rw[run_callFunc_extern (e:=Extern.BytealgCompare.compare) Tryz.func87 rfl rfl rfl (by kernel_rfl)];show Result.andThen ((Extern.BytealgCompare.compare #[va,vb]).run Tryz.prog w) _=_;rw[xbqf ra rb (qav h1.1).2 (qav h1.2).2];unfold qbf;rw[qab];rfl
   ·match j,hj,hv with
    | 0,hj,hv=>cases hj;cases hv;exact .cl _ _ (.int ..)
    | j+1,hj,hv=>cases hj
 ·cases h1
def qw6:Go.Shelf.Ren:=⟨fun _=>119,fun t=>cond (Nat.beq t 25) 5 (cond (Nat.beq t 22) 31 t),fun g=>g⟩
theorem q84(hm:Tryz.prog.follows .mixedOrders=true):Lays8.n4 Tryz.prog qw6 where
 mixed:=hm
 f4:=⟨Tryz.f119.name,by decide,by kernel_rfl⟩
 t0:=Tryz.underlying0
 a0:=fun w=>by kernel_rfl
 z0:=fun w=>by kernel_rfl
 v0:=fun w=>by kernel_rfl
 t3:=Tryz.underlying3
 a3:=fun w=>by kernel_rfl
 z3:=fun w=>by kernel_rfl
 v3:=fun w=>by kernel_rfl
 t4:=Tryz.underlying4
 a4:=fun w=>by kernel_rfl
 z4:=fun w=>by kernel_rfl
 v4:=fun w=>by kernel_rfl
 t9:=Tryz.underlying9
 a9:=fun w=>by kernel_rfl
 z9:=fun w=>by kernel_rfl
 v9:=fun w=>by kernel_rfl
 t20:=Tryz.underlying20
 a20:=fun w=>by kernel_rfl
 z20:=fun w=>by kernel_rfl
 v20:=fun w=>by kernel_rfl
 t22:=Tryz.underlying31
 a22:=fun w=>by kernel_rfl
 z22:=fun w=>by kernel_rfl
 v22:=fun w=>by kernel_rfl
theorem info5:(Tryz.prog.info? 5).map (fun i=>(i.zero,i.size,i.bytes))=some (some (.int .u8 0),1,1):=by kernel_rfl
theorem q8m{bl:Nat->Prop}{w w':World}{Im:Nat->Prop}{ρ ρ':Nat->Loc}{l:Loc}(h:Gam w.heap.size bl Im w Im ρ [])(hsz:w.heap.size<=w'.heap.size)(hρ:ρ' 0=l)(ho:ORep w' Im ρ' (shOf [(0,⟨.ints .u8 [],false⟩)]) (.ints .u8 []) l)(hl: ∀b x y,l=some (b,x,y)->b<w'.heap.size/\¬Im b/\w.heap.size<=b):
  Gam w.heap.size bl Im w' Im ρ' [(0,⟨.ints .u8 [],false⟩)]:=by
 have one: ∀(p:Nat) (o:Obj),qah ([(0,⟨.ints .u8 [],false⟩)]:Heap) p=some o->p=0/\o=⟨.ints .u8 [],false⟩:=fun p o hp=>by
  simp only[qah] at hp
  cases hb:Nat.beq 0 p with
  | true=>rw[hb] at hp;cases hp;exact⟨(qag.1 hb).symm,rfl⟩
  | false=>rw[hb] at hp;cases hp
 refine⟨fun b hb=>zbc (h.im b hb) hsz,h.i0,fun p o hp=> ?_,fun p q o o' b x y x' y' hp hq _ _ hne=> ?_,fun p o b x y hp hr=> ?_,h.imo⟩
 ·obtain⟨rfl,rfl⟩:=one p o hp;rw[hρ];exact ho
 ·exact absurd ((one p o hp).1.trans (one q o' hq).1.symm) hne
 ·obtain⟨rfl,rfl⟩:=one p o hp;rw[hρ] at hr;obtain⟨h1,h2,h3⟩:=hl b x y hr;exact⟨h1,fun e=>absurd e zb6,fun _=>⟨h2,.inr h3⟩⟩
theorem xba8(hm:Tryz.prog.follows .mixedOrders=true):Sound Tryz.prog qa6 119 (fun xs obs=>cond (quz xs obs) (SSGrow xs obs).eval none):=by
 intro xs obs out w Im ρ bl vs hs hpre;obtain⟨h1,h2⟩:=qaa hs;unfold quz at h1;split at h1
 ·rename_i n;have h2:some (Out.ret [.ref 0 0 0 true 1] [some ⟨.ints .u8 qbv,false⟩])=some out:=h2;cases h2;have hn:0<=n/\n<=100000000:=by unfold xbdk at h1;rw[qab] at h1;exact of_decide_eq_true h1
  obtain⟨m,rfl⟩: ∃m:Nat,n=m:=⟨n.toNat,by omega⟩;have hl:vs.length=2:=hpre.reps.1
  match vs,hl,hpre with
  | [va,vb],_,hpre=>
   have ra:=hpre.reps.2 0 _ _ rfl rfl;have rb:=hpre.reps.2 1 _ _ rfl rfl;cases ra;obtain rfl:vb=.int .i64 m:=by
    cases rb with
    | cl _ _ h=>cases h;rfl
   refine .inl ⟨?_, ?_⟩
   ·have hn': ¬Tryz.f119.name= "runtime.NumGoroutine" :=of_decide_eq_true (by kernel_rfl);obtain⟨c,hc⟩: ∃c,Tryz.f119.body=some c:=⟨_,rfl⟩;simp[callFunc,Tryz.func119,hn',hc]
   ·have e:qbv=[]:=qab _;rw[e];have hg:Gam w.heap.size bl Im w Im ρ []:=hpre.gam;by_cases hz:m=0
    ·subst hz;refine(Any8.slices_Grow_room (q84 hm) none 0 0 0 w (zas _) (by omega) (by omega) (zas _)).mono fun e w' ⟨he,hw⟩=> ?_;subst he;subst hw;refine⟨[.slice none 0 0],Im,fun _=>none,rfl,⟨Fr.refl _ bl,q8m hg (zas _) rfl ⟨rfl,rfl,trivial⟩ (fun b x y h=>by cases h),fun j o o' hj=>by cases hj⟩,rfl,fun j c v hj hv=> ?_⟩
     match j,hj,hv with
     | 0,hj,hv=>cases hj;cases hv;exact .refV 0 ⟨0,1,false⟩ true 1 rfl rfl rfl rfl
     | j+1,hj,hv=>cases hj
    ·obtain⟨i0,hi0,hi⟩:=zaq.1 info5;simp only[zbh] at hi;obtain⟨hi1,hi2,hi3⟩:=hi;refine(Any8.slices_Grow_grow (q84 hm) i0 (.int .u8 0) hi0 hi1 (by omega) none 0 0 m [] w (zas _) (by omega) (by rw[hi3];omega) (by omega) (by simp) (fun _=>rfl) (fun a h=>by cases h)).mono fun e w' ⟨he,hw⟩=> ?_;have hG:0+m<=grownCap w (0+m) 0 (qw6.t 25):=grownCap_ge w _ _ _;generalize grownCap w (0+m) 0 (qw6.t 25)=G at*;subst he;generalize hcs:([]:List Value).toArray++Builtin.zeroCells (Value.int .u8 0).cells (0+m - 0)++Builtin.zeroCells (Value.int .u8 0).cells (G - (0+m))=cs at hw;have hsz:cs.size=G:=by rw[<- hcs,zdp,zdp,size_zeroCells,size_zeroCells];simp[Value.cells];omega
     have hheap:w'.heap=w.heap.push (.cells cs (qw6.t 25) (0,0)):=by rw[hw];rfl
     have hb:w'.heap[w.heap.size]? =some (.cells cs (qw6.t 25) (0,0)):=by rw[hheap];simp
     have hFr:Fr w bl w':=by refine⟨by rw[hw];rfl,by rw[hw];rfl,by rw[hw];rfl,by rw[hheap,zdk];omega,fun b hb' _=>by rw[hheap,zdj,if_neg (by omega)]⟩
     refine⟨[.slice (some ⟨w.heap.size,0,none⟩) 0 G],Im,fun _=>some (w.heap.size,0,G),rfl,⟨hFr,q8m hg hFr.size rfl ⟨trivial,by rw[hheap];simp,zcf _,fun i hi=>⟨?_, ?_⟩,fun j c hj=>by simp[qaf] at hj⟩ (fun b x y h=> ?_),fun j o o' hj=>by cases hj⟩,rfl,fun j c v hj hv=> ?_⟩
     ·simp[World.cell?,hb,hsz,hi]
     ·simp[World.frozen?,hb]
     ·cases h;exact⟨by rw[hheap];simp,fun hI=>Nat.lt_irrefl _ (hg.im _ hI),zas _⟩
     ·match j,hj,hv with
      | 0,hj,hv=>
       cases hj;cases hv;exact .ref 0 0 0 true 1 ⟨0,1,false⟩ w.heap.size 0 G ⟨w.heap.size,0,none⟩ G rfl rfl rfl (zcf _) (zas _) (fun _=>rfl) (fun _=>rfl) (by omega)
      | j+1,hj,hv=>cases hj
 ·cases h1
theorem qb8{P:Program}{glob:Nat->Option CV}{g:FuncId}{p:List V->List Obj->Bool}{q:Nat->List V->List Obj->Bool}{S:List V->List Obj->Tree}(h: ∀rk,Sound P glob g (fun xs obs=>cond (q rk xs obs) (S xs obs).eval none))(hp: ∀xs obs,p xs obs=true->∃rk,q rk xs obs=true):
  Sound P glob g (fun xs obs=>cond (p xs obs) (S xs obs).eval none):=by
 intro xs obs out w Im ρ bl vs hs;obtain⟨h1,h2⟩:=qaa hs;obtain⟨rk,hq⟩:=hp xs obs h1;exact h rk xs obs out w Im ρ bl vs (by show cond (q rk xs obs) _ _=_;rw[hq];exact h2)
theorem qde{P:Program}{glob:Nat->Option CV}{g:FuncId}{p:List V->List Obj->Bool}{S:List V->List Obj->Tree}(h: ∀xs obs, ¬p xs obs=true):Sound P glob g (fun xs obs=>cond (p xs obs) (S xs obs).eval none):=by intro xs obs out w Im ρ bl vs hs;exact absurd (qaa hs).1 (h xs obs)
theorem xbbb{P:Program}{glob:Nat->Option CV}{g:FuncId}{p:List V->List Obj->Bool}:Sound P glob g (fun xs obs=>cond (p xs obs) ((fun _ _=>Tree.fail:List V->List Obj->Tree) xs obs).eval none):=by intro xs obs out w Im ρ bl vs hs;cases(qaa hs).2
abbrev MX:Prop:=Tryz.prog.follows .mixedOrders=true
abbrev TK(B:Nat->Ct):Prop:=MX->xbcm Tryz.prog qa6 B
abbrev OKS(g:FuncId)(p:List V->List Obj->Bool)(S:List V->List Obj->Tree):Prop:=Sound Tryz.prog qa6 g (fun xs obs=>cond (p xs obs) (S xs obs).eval none)
theorem xbld:TK BDigits:=fun _=>tab0
theorem xbqj:TK BDLeap:=tc0 EDigits KDigits xbld Tryz.func130 fun xs obs y h hp=>by unfold KDigits at h;split at h<;>cases h;exact tr (xbow _ hp)
theorem xbqg:TK BDDays:=tc0 EDLeap KDLeap xbqj Tryz.func139 fun xs obs y h hp=>by unfold KDLeap at h;split at h<;>cases h;rename_i d0 d1 d2 d3 d4 d5;exact tr (xbta d0 d1 d2 d3 d4 d5 hp)
theorem xbuh:TK BDFit:=tc0 EDDays KDDays xbqg Tryz.func137 fun xs obs y h hp=>by unfold KDDays at h;split at h<;>cases h;rename_i d0 d1 d2 d3 d4 d5;exact tr (xbs8 d0 d1 d2 d3 d4 d5 hp)
theorem xbqm:TK BDSecs:=tc0 EDFit KDFit xbuh Tryz.func131 fun xs obs y h hp=>by unfold KDFit at h;split at h<;>cases h;exact tr (xbwh _ _ _ _ _ _ hp)
theorem xbqz:TK BSRead:=tc0 EDSecs KDSecs xbqm Tryz.func132 fun xs obs y h hp=>by unfold KDSecs at h;split at h<;>cases h;exact tr (xbtc _ _ _ _ _ _ hp)
theorem xbqu:TK BRLeap:=tc0 ESRead KSRead xbqz Tryz.func116 fun xs obs y h hp=>by unfold KSRead at h;split at h<;>cases h;exact tr (xbtr _ hp)
theorem xbqr:TK BRDays:=tc0 ERLeap KRLeap xbqu Tryz.func134 fun xs obs y h hp=>by unfold KRLeap at h;split at h<;>cases h;exact tr (xbtm _ hp)
theorem xblm:TK BRYears:=tc0 ERDays KRDays xbqr Tryz.func122 fun xs obs y h hp=>by unfold KRDays at h;split at h<;>cases h;exact tr (xbti _ _ hp)
theorem xbey:TK BRNumber:=tc0 ERYears KRYears xblm Tryz.func123 fun xs obs y h hp=>by unfold KRYears at h;split at h<;>cases h;exact tr (xbo9 _ hp)
theorem xbqv:TK BRRead:=tcT ERNumber KRNumber xbey Tryz.func121 [(true,3)] ⟨⟨_,rfl,qvu⟩,trivial⟩ fun xs obs y h hp=>by unfold KRNumber at h;split at h<;>cases h;exact tr (xbkn _ hp)
theorem xbk9:TK BDBoxed:=tcT ERRead KRRead xbqv Tryz.func106 [(true,13)] ⟨⟨_,rfl,qx5⟩,trivial⟩ fun xs obs y h hp=>by unfold KRRead at h;split at h<;>cases h;exact tr (xbtn _ hp)
theorem xblj:TK BRBoxed:=tc0 EDBoxed KDBoxed xbk9 Tryz.func94 fun xs obs y h hp=>by unfold KDBoxed at h;split at h<;>cases h;exact tr (xboq _ hp)
theorem xblb:TK BDKnown:=tc0 ERBoxed KRBoxed xblj Tryz.func77 fun xs obs y h hp=>by unfold KRBoxed at h;split at h<;>cases h;exact tr (xbo5 _ hp)
theorem xbez:TK BRTagged:=tc0 EDKnown KDKnown xblb Tryz.func97 fun xs obs y h hp=>by unfold KDKnown at h;split at h<;>cases h;exact tr (xbot _ hp)
theorem xbaj:TK qso:=tc0 ERTagged KRTagged xbez Tryz.func76 fun xs obs y h hp=>by unfold KRTagged at h;split at h<;>cases h;exact tr (xbko _ hp)
theorem xber:TK BDNumber:=tc0 xbct qkm xbaj Tryz.func99 fun xs obs y h hp=>by unfold qkm at h;split at h<;>cases h;exact tr (xbd6 _ hp)
theorem xbex:TK qxr:=tc0 EDNumber KDNumber xber Tryz.func113 fun xs obs y h hp=>by unfold KDNumber at h;split at h<;>cases h;exact tr (xbkg _ hp)
theorem xblc:TK BDStrip:=tc0 xbi1 qxw xbex Tryz.func103 fun xs obs y h hp=>by unfold qxw at h;split at h<;>cases h;exact tr (xbkm _ hp)
theorem xbal:TK qsp:=tc0 EDStrip KDStrip xblc Tryz.func114 fun xs obs y h hp=>by unfold KDStrip at h;split at h<;>cases h;exact tr (xbou _ hp)
theorem xbqq:TK BRCont:=tc0 xbcu qst xbal Tryz.func104 fun xs obs y h hp=>by unfold qst at h;split at h<;>cases h;exact tr (xbea _ hp)
theorem xbqw:TK BRRune:=tc0 ERCont KRCont xbqq Tryz.func133 fun xs obs y h hp=>by unfold KRCont at h;split at h<;>cases h;exact tr (xbth _ _ hp)
theorem xbqx:TK BRUtf8:=tcT ERRune KRRune xbqw Tryz.func120 [(false,10),(false,8)] ⟨⟨_,rfl,qxs⟩,⟨_,rfl,q33⟩,trivial⟩ fun xs obs y h hp=>by unfold KRRune at h;split at h<;>cases h;exact tr (xbto _ _ hp)
theorem xbui:TK BOFit:=tcT ERUtf8 KRUtf8 xbqx Tryz.func105 [(true,2)] ⟨⟨_,rfl,q37⟩,trivial⟩ fun xs obs y h hp=>by unfold KRUtf8 at h;split at h<;>cases h;exact tr (xbtq _ hp)
theorem xbqp:TK BR2Fit:=tc0 EOFit KOFit xbui Tryz.func60 fun xs obs y h hp=>by unfold KOFit at h;split at h<;>cases h;exact tr (xbwj _ hp)
theorem xbev:TK BR2First:=tc0 ER2Fit KR2Fit xbqp Tryz.func82 fun xs obs y h hp=>by unfold KR2Fit at h;split at h<;>cases h;exact tr (xbtg _ hp)
theorem xbes:TK BONumber:=tc0 ER2First KR2First xbev Tryz.func111 fun xs obs y h hp=>by unfold KR2First at h;split at h<;>cases h;exact tr (xbkk _ hp)
theorem qxc:TK BONumbers:=tcT EONumber KONumber xbes Tryz.func128 [(true,3)] ⟨⟨_,rfl,qvr⟩,trivial⟩ fun xs obs y h hp=>by unfold KONumber at h;split at h<;>cases h;exact tr (xbkh _ hp)
theorem qxj(hm:MX):OKc Tryz.prog qa6 112 KONumbers:=
 rs0 (E:=EONumbers) (N:=40) (keep:=true) (qxc hm) hm Tryz.func112 (by kernel_rfl) fun xs obs y h hp=>by unfold KONumbers at h;split at h<;>cases h;exact tr (xbd7 _ hp)
theorem qu8:TK BOParse:=fun hm=>tabC (K:=KONumbers) (qxj hm) (qxc hm)
theorem xbl4(hm:MX): ∀xs obs ys,q90 xs obs=true->QONums xs obs=some ys->xbr8 Tryz.prog qa6 127 xs obs ys:=by
 intro xs obs ys hp h;unfold QONums at h;split at h
 ·rename_i b;cases h;have hE: ∀(l:Nat) (g:FuncId),Sound Tryz.prog (EONums l).glob g (ctr (EONums l) g):=fun l g=>(qak (qu8 hm 128) qbs);refine xbe3 (N:=40) EONums hE hm (fun _=>rfl) (fun _=>rfl) (fun _=>rfl) Tryz.func127 rfl q9d (fun _=>rfl) (by decide) rfl fun l=> ?_;obtain⟨out,h1,h2⟩:=xbtf l b hp;exact⟨out,(xbde l b).trans h1,h2⟩
 ·cases h
theorem xbmb(hm:MX):qfh Tryz.prog EOParse:=by
 intro gf xs obs ys hp h;have h:(cond (Nat.beq gf 127) QONums (fun _ _=>none)) xs obs=some ys:=h
 cases hb:Nat.beq gf 127 with
 | false=>rw[hb] at h;cases h
 | true=>
  obtain rfl:=qag.1 hb;exact⟨xbl4 hm xs obs ys hp h,_,Tryz.func127,rfl,rfl⟩
theorem q5v(hm:MX):OKS 96 quv SOParse:=
 qbk (E:=EOParse) (N:=40) (keep:=false) hm (fun g=>(qak (qu8 hm 60) (qak (qu8 hm 112) xbbb))) Tryz.func96 rfl rfl q5g rfl (hsq:=xbmb hm) (hS:=by
  intro xs obs out hp h;unfold SOParse at h;split at h
  ·refine⟨by simp[Tryz.f96], ?_⟩;rw[q72];exact(xboy _ hp).trans h
  ·cases h)
theorem xbew:TK BR2Parse:=fun hm=>tabC (K:=ofS quv SOParse) (q5v hm) (qu8 hm)
theorem xblh:TK BR1Same:=tcT ER2Parse KR2Parse xbew Tryz.func93 [(true,5)] ⟨⟨_,rfl,qvt⟩,trivial⟩ fun xs obs y h hp=>by unfold KR2Parse at h;split at h<;>cases h;exact tr (xbkl _ hp)
theorem xbli:TK BR4Less:=tcT ER1Same KR1Same xblh Tryz.func24 [(true,4)] ⟨⟨_,rfl,qx3⟩,trivial⟩ fun xs obs y h hp=>by unfold KR1Same at h;split at h<;>cases h;exact tr (xbo3 _ _ hp)
theorem xbrd:TK BUWord:=tcT ER4Less KR4Less xbli Tryz.func91 [(true,2)] ⟨⟨_,rfl,qx4⟩,trivial⟩ fun xs obs y h hp=>by unfold KR4Less at h;split at h<;>cases h;exact tr (xbo4 _ _ hp)
theorem xbly:TK BUValid:=tc0 EUWord KUWord xbrd Tryz.func129 fun xs obs y h hp=>by unfold KUWord at h;split at h<;>cases h;exact tr (xbt7 _ hp)
theorem xbh1:TK BRSame:=tcT EUValid KUValid xbly Tryz.func115 [(true,10),(true,2)] ⟨⟨_,rfl,qvx⟩,⟨_,rfl,qy5⟩,trivial⟩ fun xs obs y h hp=>by unfold KUValid at h;split at h<;>cases h;exact tr (xbpn _ hp)
theorem qsf(hm:MX): ∀rk,OKS 23 (qls rk) SRSame
 | 0=>qde fun xs obs h=>by
  unfold qls at h;split at h
  ·simp only[zab] at h;have:=qi2 h.1;simp[isNf] at this
  ·cases h
 | rk+1=>qbk (E:=ERSame rk) (N:=40) (keep:=false) hm (fun g=>(qak (qsf hm rk) (qak (xbh1 hm 24) qbs))) Tryz.func23 rfl rfl (q9f rk) rfl (by
  intro xs obs out hp h;have hp:qls (rk+1) xs obs=true:=hp;have hp0:=hp;unfold qls at hp;split at hp
  ·rename_i a b;simp only[zab] at hp;obtain⟨_,ta,ba,ka,_,rfl,_⟩:=qn5 (qi2 hp.1);obtain⟨_,hn⟩:=qml hp.2;obtain⟨_,tb,bb,kb,_,rfl,_⟩:=qn5 hn;refine⟨by simp[Tryz.f23], ?_⟩;rw[xbdg];exact(xbtp rk ta ba ka tb bb kb hp0).trans h
  ·cases hp)
theorem xba7(hm:MX):OKS 23 quw SRSame:=
 qb8 (fun rk=>qsf hm rk) fun xs obs h=>by
  unfold quw at h;split at h
  ·rename_i a b;simp only[zab] at h;obtain⟨n,hn⟩:=qml h.1;refine⟨n, ?_⟩;show(isNr n a&&isN b)=true;rw[q1u hn,h.2];rfl
  ·cases h
theorem xbqi:TK BDFits:=fun hm=>tabC (K:=ofS quw SRSame) (xba7 hm) (xbh1 hm)
theorem xbqt:TK BRFits:=tc0 EDFits KDFits xbqi Tryz.func98 fun xs obs y h hp=>by unfold KDFits at h;split at h<;>cases h;exact tr (xbos _ _ hp)
theorem xbak:TK BR4Sorted:=tc0 ERFits KRFits xbqt Tryz.func78 fun xs obs y h hp=>by unfold KRFits at h;split at h<;>cases h;exact tr (xbtk _ _ hp)
theorem q5u:TK BBACompare:=tcT ER4Sorted KR4Sorted xbak Tryz.func80 [(true,2)] ⟨⟨_,rfl,qs1⟩,trivial⟩ fun xs obs y h hp=>by unfold KR4Sorted at h;split at h<;>cases h;exact tr (xbd9 _ hp)
theorem xbai:TK BBCompare:=fun hm=>tabC (K:=ofS qg7 SBACompare) (qvd hm) (q5u hm)
theorem xbqn:TK BOLess:=tc0 EBCompare KBCompare xbai Tryz.func63 fun xs obs y h hp=>by unfold KBCompare at h;split at h<;>cases h;exact tr (xbd5 _ _ hp)
theorem xblf:TK BOSteps:=tc0 EOLess KOLess xbqn Tryz.func118 fun xs obs y h hp=>by unfold KOLess at h;split at h<;>cases h;exact tr (xbte _ _ hp)
theorem xbet:TK BOSorted:=tcT EOSteps KOSteps xblf Tryz.func117 [(true,2)] ⟨⟨_,rfl,qx1⟩,trivial⟩ fun xs obs y h hp=>by unfold KOSteps at h;split at h<;>cases h;exact tr (xbo1 _ hp)
theorem xbln:TK BSEqual:=tc0 EOSorted KOSorted xbet Tryz.func101 fun xs obs y h hp=>by unfold KOSorted at h;split at h<;>cases h;exact tr (xbki _ hp)
theorem xbv4:TK BEqF:=tcT ESEqual KSEqual xbln Tryz.func71 [(true,4)] ⟨⟨_,rfl,qx9⟩,trivial⟩ fun xs obs y h hp=>by unfold KSEqual at h;split at h<;>cases h;exact tr (xbpa _ _ hp)
theorem q3q(hm:MX)(rk:Nat)(hD:OKS 43 (qd2 rk) SDSame):OKS 42 (q91 rk) SEqF:=
 qbk (E:=EEqF rk) (N:=40) (keep:=false) hm (fun g=>(qak (hD) qbs)) Tryz.func42 rfl rfl (xbj8 rk) rfl (by
  intro xs obs out hp h;unfold SEqF at h;split at h
  ·refine⟨by simp[Tryz.f42], ?_⟩;rw[xbnd];exact(nEqF rk _ _ hp).trans h
  ·cases h)
theorem q5w(hm:MX)(rk:Nat)(hD:OKS 43 (qd2 rk) SDSame)(hE:OKS 42 (q91 rk) SEqF):OKS 43 (qd2 (rk+1)) SDSame:=
 qbk (E:=EDSame rk) (N:=40) (keep:=false) hm (fun g=>(qak (hE) (qak (hD) (qak (xbv4 hm 71) qbs)))) Tryz.func43 rfl rfl (q9b rk) rfl (by
  intro xs obs out hq h;have hp:qd2 (rk+1) xs obs=true:=hq;have hp0:qd2 (rk+1) xs obs=true:=hq;clear hq;unfold qd2 at hp;split at hp
  ·rename_i a b;simp only[zab] at hp;obtain⟨_,ta,ba,ka,_,rfl,_⟩:=qn5 (qi2 hp.1);obtain⟨_,hn⟩:=qml hp.2;obtain⟨_,tb,bb,kb,_,rfl,_⟩:=qn5 hn;refine⟨by simp[Tryz.f43], ?_⟩;rw[xbdb];exact(xbtb rk ta ba ka tb bb kb hp0).trans h
  ·cases hp)
theorem q3p(hm:MX): ∀rk,OKS 43 (qd2 rk) SDSame
 | 0=>qde fun xs obs h=>by
  unfold qd2 at h;split at h
  ·simp only[zab] at h;have:=qi2 h.1;simp[isNf] at this
  ·cases h
 | rk+1=>q5w hm rk (q3p hm rk) (q3q hm rk (q3p hm rk))
theorem xba4(hm:MX):OKS 43 quu SDSame:=
 qb8 (fun rk=>q3p hm rk) fun xs obs h=>by
  unfold quu at h;split at h
  ·rename_i a b;simp only[zab] at h;obtain⟨n,hn⟩:=qml h.1;refine⟨n, ?_⟩;show(isNr n a&&isN b)=true;rw[q1u hn,h.2];rfl
  ·cases h
theorem xbma(hm:MX):OKS 42 xbem SEqF:=
 qb8 (fun rk=>q3q hm rk (q3p hm rk)) fun xs obs h=>by
  unfold xbem at h;split at h
  ·rename_i a b;simp only[zab] at h;obtain⟨hl,n,hn⟩:=q1v h.1;refine⟨n, ?_⟩;show(xbg8 n a&&isNs b)=true;rw[q8u hl hn,h.2];rfl
  ·cases h
theorem xbql:TK BDSame:=fun hm=>tabC (K:=ofS xbem SEqF) (xbma hm) (xbv4 hm)
theorem xbll:TK BRSmall:=fun hm=>tabC (K:=ofS quu SDSame) (xba4 hm) (xbql hm)
theorem qqn(hm:MX): ∀rk,OKS 14 (qgc rk) SRSmall
 | 0=>qde fun xs obs h=>by
  unfold qgc at h;split at h
  ·simp only[zab] at h;have:=qt1 h.1;simp[isTf] at this
  ·cases h
 | rk+1=>qbk (E:=ERSmall rk) (N:=40) (keep:=false) hm (fun g=>(qak (qqn hm rk) qbs)) Tryz.func14 rfl rfl (q5i rk) rfl (by
  intro xs obs out hq h;have hp:qgc (rk+1) xs obs=true:=hq;have hp0:qgc (rk+1) xs obs=true:=hq;clear hq;unfold qgc at hp;split at hp
  ·rename_i a n
   try simp only[zab] at hp
   have ha:=qt1 hp.1;obtain⟨_,ta,ba,ka,_,rfl,_⟩:=qcu ha;refine⟨by simp[Tryz.f14], ?_⟩;rw[q8c];exact(xbo7 rk ta ba ka n hp0).trans h
  ·cases hp)
theorem q5x(hm:MX):OKS 14 qoq SRSmall:=
 qb8 (fun rk=>qqn hm rk) fun xs obs h=>by
  unfold qoq at h;split at h
  ·rename_i a n;simp only[zab] at h;obtain⟨n',hn⟩:=qmm h.1;refine⟨n', ?_⟩;show(isTr n' a&&qpq n)=true;rw[xbg9 hn,h.2];rfl
  ·cases h
theorem qxb:TK BDSize:=fun hm=>tabC (K:=ofS qoq SRSmall) (q5x hm) (xbll hm)
theorem qse(hm:MX): ∀rk,OKS 74 (qjl rk) SDSize
 | 0=>qde fun xs obs h=>by
  unfold qjl at h;split at h
  ·simp only[zab] at h;have:=(qi3 h.1).1;simp[isTf] at this
  ·cases h
 | rk+1=>qbk (E:=EDSize rk) (N:=40) (keep:=false) hm (fun g=>(qak (qse hm rk) (qak (qxb hm 94) (qak (qxb hm 97) (qak (qxb hm 98) (qak (qxb hm 99) qbs)))))) Tryz.func74 rfl rfl (q9c rk) rfl (by
  intro xs obs out hq h;have hp:qjl (rk+1) xs obs=true:=hq;have hp0:qjl (rk+1) xs obs=true:=hq;clear hq;unfold qjl at hp;split at hp
  ·rename_i a n
   try simp only[zab] at hp
   have ha:=(qi3 hp.1).1;obtain⟨_,ta,ba,ka,_,rfl,_⟩:=qcu ha;refine⟨by simp[Tryz.f74], ?_⟩;rw[xbdc];exact(xbtd rk ta ba ka n hp0).trans h
  ·cases hp)
theorem qxi(hm:MX):OKS 74 qqc SDSize:=
 qb8 (fun rk=>qse hm rk) fun xs obs h=>by
  unfold qqc at h;split at h
  ·rename_i a n;simp only[zab] at h;obtain⟨n',hn,hb⟩:=qcz h.1;refine⟨n', ?_⟩;show(isSr n' a&&qjr n)=true;rw[q1x hn hb,h.2];rfl
  ·cases h
theorem xbqk:TK BDPut:=fun hm=>tabC (K:=ofS qqc SDSize) (qxi hm) (qxb hm)
theorem xbe9(hm:MX):OKc Tryz.prog qa6 100 KDPut:=
 rs (E:=EDPut) (N:=40) (keep:=true) (xbqk hm) hm Tryz.func100 (lsB (ids:=[(true,7)]) (by kernel_rfl) ⟨⟨_,rfl,q6h⟩,trivial⟩) fun xs obs y h hp=>by unfold KDPut at h;split at h<;>cases h;exact tr (xbwi _ _ hp)
theorem xbh0:TK BRHead:=fun hm=>tabC (K:=KDPut) (xbe9 hm) (xbqk hm)
theorem xba6(hm:MX):OKc Tryz.prog qa6 79 KRHead:=
 rs0 (E:=ERHead) (N:=40) (keep:=true) (xbh0 hm) hm Tryz.func79 (by kernel_rfl) fun xs obs y h hp=>by unfold KRHead at h;split at h<;>cases h;exact tr (xbtl _ _ hp)
theorem xblg:TK BR1Join:=fun hm=>tabC (K:=KRHead) (xba6 hm) (xbh0 hm)
theorem xbqy:TK BSGrow:=tcT ER1Join KR1Join xblg Tryz.func81 [(true,3)] ⟨⟨_,rfl,qx2⟩,trivial⟩ fun xs obs y h hp=>by unfold KR1Join at h;split at h<;>cases h;exact tr (xbo2 _ hp)
theorem xbe0:TK BSConcat:=fun hm=>tabC (K:=ofS quz SSGrow) (xba8 hm) (xbqy hm)
theorem qqk:TK BDWrite:=tcT ESConcat KSConcat xbe0 Tryz.func102 [(true,3),(true,11)] ⟨⟨_,rfl,qvw⟩,⟨_,rfl,qs4⟩,trivial⟩ fun xs obs y h hp=>by unfold KSConcat at h;split at h<;>cases h;exact tr (xbkp _ hp)
theorem qqm(hm:MX): ∀rk,OKS 75 (qgb rk) SDWrite
 | 0=>qde fun xs obs h=>by
  unfold qgb at h;split at h
  ·have:=(qt2 h).1;simp[isTf] at this
  ·cases h
 | rk+1=>qbk (E:=EDWrite rk) (N:=40) (keep:=false) hm (fun g=>(qak (qqm hm rk) (qak (qqk hm 94) (qak (qqk hm 100) (qak (qqk hm 101) (qak (qqk hm 102) qbs)))))) Tryz.func75 rfl rfl (q5f rk) rfl (by
  intro xs obs out hq h;have hp:qgb (rk+1) xs obs=true:=hq;have hp0:qgb (rk+1) xs obs=true:=hq;clear hq;unfold qgb at hp;split at hp
  ·rename_i a
   try simp only[zab] at hp
   have ha:=(qt2 hp).1;obtain⟨_,ta,ba,ka,_,rfl,_⟩:=qcu ha;refine⟨by simp[Tryz.f75], ?_⟩;rw[q7w];exact(xbov rk ta ba ka hp0).trans h
  ·cases hp)
theorem qsc(hm:MX):OKS 75 qlr SDWrite:=
 qb8 (fun rk=>qqm hm rk) fun xs obs h=>by
  unfold qlr at h;split at h
  ·rename_i a;unfold isW at h;rw[qab] at h;obtain⟨n,hn⟩:=@of_decide_eq_true _ (Classical.propDecidable _) h;exact⟨n,xbha hn⟩
  ·cases h
theorem qkh:TK BRWrite:=fun hm=>tabC (K:=ofS qlr SDWrite) (qsc hm) (qqk hm)
theorem qqo(hm:MX): ∀rk,OKS 51 (qgd rk) SRWrite
 | 0=>qde fun xs obs h=>by
  unfold qgd at h;split at h
  ·simp only[zab] at h;have:=(qi3 h.1).1;simp[isTf] at this
  ·cases h
 | rk+1=>qbk (E:=ERWrite rk) (N:=40) (keep:=false) hm (fun g=>(qak (qqo hm rk) (qak (qkh hm 76) (qak (qkh hm 77) (qak (qkh hm 78) (qak (qkh hm 79) (qak (qkh hm 80) (qak (qkh hm 81) qbs)))))))) Tryz.func51 rfl rfl (q5j rk) rfl (by
  intro xs obs out hq h;have hp:qgd (rk+1) xs obs=true:=hq;have hp0:qgd (rk+1) xs obs=true:=hq;clear hq;unfold qgd at hp;split at hp
  ·rename_i a n
   try simp only[zab] at hp
   have ha:=(qi3 hp.1).1;obtain⟨_,ta,ba,ka,_,rfl,_⟩:=qcu ha;refine⟨by simp[Tryz.f51], ?_⟩;rw[q8f];exact(xbo8 rk ta ba ka n hp0).trans h
  ·cases hp)
theorem qsi(hm:MX):OKS 51 qlt SRWrite:=
 qb8 (fun rk=>qqo hm rk) fun xs obs h=>by
  unfold qlt at h;split at h
  ·rename_i a n;simp only[zab] at h;obtain⟨n',hn,hb⟩:=qcz h.1;refine⟨n', ?_⟩;show(isSr n' a&&qjr n)=true;rw[q1x hn hb,h.2];rfl
  ·cases h
theorem xbla:TK BDBytes:=fun hm=>tabC (K:=ofS qlt SRWrite) (qsi hm) (qkh hm)
theorem qsb(hm:MX):OKS 50 qg8 SDBytes:=
 qbk (E:=EDBytes) (N:=40) (keep:=false) hm (fun g=>(qak (qxi hm) (qak (qsc hm) qbs))) Tryz.func50 rfl rfl q5e rfl (by
  intro xs obs out hq h;have hp:qg8 xs obs=true:=hq;have hp0:qg8 xs obs=true:=hq;clear hq;unfold qg8 at hp;split at hp
  ·rename_i a
   try simp only[zab] at hp
   obtain⟨_,ha,_⟩:=qcz hp;obtain⟨_,ta,ba,ka,_,rfl,_⟩:=qcu ha;refine⟨by simp[Tryz.f50], ?_⟩;rw[q7t];exact(xbor ta ba ka hp0).trans h
  ·cases hp)
theorem xbqh:TK xbmq:=fun hm=>tabC (K:=ofS qg8 SDBytes) (qsb hm) (xbla hm)
theorem xba3(hm:MX):OKS 33 qm9 xbi4:=
 qbk (E:=xbi0) (N:=40) (keep:=false) hm (fun g=>(qak (qsb hm) qbs)) Tryz.func33 rfl rfl q9a rfl (by
  intro xs obs out hq h;have hp:qm9 xs obs=true:=hq;have hp0:qm9 xs obs=true:=hq;clear hq;unfold qm9 at hp;split at hp
  ·rename_i a
   try simp only[zab] at hp
   obtain⟨_,ha,_⟩:=qcz hp;obtain⟨_,ta,ba,ka,_,rfl,_⟩:=qcu ha;refine⟨by simp[Tryz.f33], ?_⟩;rw[xbda];exact(xbs9 ta ba ka hp0).trans h
  ·cases hp)
theorem xblk:TK BRBytes:=fun hm=>tabC (K:=ofS qm9 xbi4) (xba3 hm) (xbqh hm)
theorem qsd(hm:MX):OKS 25 qg9 SRBytes:=
 qbk (E:=ERBytes) (N:=40) (keep:=false) hm (fun g=>(qak (qsi hm) qbs)) Tryz.func25 rfl rfl q5h rfl (by
  intro xs obs out hq h;have hp:qg9 xs obs=true:=hq;have hp0:qg9 xs obs=true:=hq;clear hq;unfold qg9 at hp;split at hp
  ·rename_i a
   try simp only[zab] at hp
   obtain⟨_,ha,_⟩:=qcz hp;obtain⟨_,ta,ba,ka,_,rfl,_⟩:=qcu ha;refine⟨by simp[Tryz.f25], ?_⟩;rw[q78];exact(xbo6 ta ba ka hp0).trans h
  ·cases hp)
theorem xbqs:TK xbmr:=fun hm=>tabC (K:=ofS qg9 SRBytes) (qsd hm) (xblk hm)
theorem xba5(hm:MX):OKS 68 qna xbi5:=
 qbk (E:=xbi2) (N:=40) (keep:=false) hm (fun g=>(qak (qsd hm) qbs)) Tryz.func68 rfl rfl q9e rfl (by
  intro xs obs out hq h;have hp:qna xs obs=true:=hq;have hp0:qna xs obs=true:=hq;clear hq;unfold qna at hp;split at hp
  ·rename_i a
   try simp only[zab] at hp
   obtain⟨_,ha,_⟩:=qcz hp;obtain⟨_,ta,ba,ka,_,rfl,_⟩:=qcu ha;refine⟨by simp[Tryz.f68], ?_⟩;rw[xbdf];exact(xbtj ta ba ka hp0).trans h
  ·cases hp)
theorem xblv:TK BTUSame:=fun hm=>tabC (K:=ofS qna xbi5) (xba5 hm) (xbqs hm)
theorem xbut:TK BTSEq:=tcT ETUSame KTUSame xblv Tryz.func28 [(true,4)] ⟨⟨_,rfl,qy0⟩,trivial⟩ fun xs obs y h hp=>by unfold KTUSame at h;split at h<;>cases h;exact tr (xbpk _ _ hp)
theorem xblp:TK BTOSame:=tcT ETSEq KTSEq xbut Tryz.func70 [(true,4)] ⟨⟨_,rfl,q6t⟩,trivial⟩ fun xs obs y h hp=>by unfold KTSEq at h;split at h<;>cases h;exact tr (xbwt _ _ hp)
theorem xbqo:TK BOPut:=tc0 ETOSame KTOSame xblp Tryz.func41 fun xs obs y h hp=>by unfold KTOSame at h;split at h<;>cases h;exact tr (xbpe _ _ hp)
theorem xbfa(hm:MX):OKc Tryz.prog qa6 110 KOPut:=
 rs (E:=EOPut) (N:=40) (keep:=true) (xbqo hm) hm Tryz.func110 (lsB (ids:=[(false,2)]) (by kernel_rfl) ⟨⟨_,rfl,q6e⟩,trivial⟩) fun xs obs y h hp=>by
  unfold KOPut at h;split at h
  ·cases h;exact tr (xboz _ hp)
  ·cases h;rename_i m n l;exact tr (xbo0 m n l hp)
  ·cases h
theorem qxd:TK BR2Groups:=fun hm=>tabC (K:=KOPut) (xbfa hm) (xbqo hm)
theorem qxk(hm:MX):OKc Tryz.prog qa6 83 KR2Groups:=
 rs (E:=ER2Groups) (N:=40) (keep:=true) (qxd hm) hm Tryz.func83 (lsB (ids:=[(true,3)]) (by kernel_rfl) ⟨⟨_,rfl,qsz⟩,trivial⟩) fun xs obs y h hp=>by unfold KR2Groups at h;split at h<;>cases h;exact tr (xbd8 _ hp)
theorem xble:TK BOBytes:=fun hm=>tabC (K:=KR2Groups) (qxk hm) (qxd hm)
theorem xbeu:TK BR2Bytes:=tcT EOBytes KOBytes xble Tryz.func89 [(true,5)] ⟨⟨_,rfl,qxz⟩,trivial⟩ fun xs obs y h hp=>by unfold KOBytes at h;split at h<;>cases h;exact tr (xbox _ hp)
theorem xbl1:TK BVPlain:=tcT ER2Bytes KR2Bytes xbeu Tryz.func53 [(true,5)] ⟨⟨_,rfl,qvs⟩,trivial⟩ fun xs obs y h hp=>by unfold KR2Bytes at h;split at h<;>cases h;exact tr (xbkj _ hp)
theorem xbl2:TK q6a:=tc0 EVPlain KVPlain xbl1 Tryz.func92 fun xs obs y h hp=>by unfold KVPlain at h;split at h<;>cases h;exact tr (xbpq _ _ _ _ hp)
theorem xbre:TK BVMade:=tc0 xbms q6f xbl2 Tryz.func69 fun xs obs y h hp=>by unfold q6f at h;split at h<;>cases h;exact tr (xbpr _ _ _ hp)
theorem xbw4:TK BVId:=tc0 EVMade KVMade xbre Tryz.func88 fun xs obs y h hp=>by unfold KVMade at h;split at h<;>cases h;exact tr (xbt8 _ _ hp)
theorem xbl3:TK BVRMade:=tc0 EVId KVId xbw4 Tryz.func64 fun xs obs y h hp=>by unfold KVId at h;split at h<;>cases h;exact tr (nVId _ hp)
theorem xbuz:TK BVRId:=tc0 EVRMade KVRMade xbl3 Tryz.func52 fun xs obs y h hp=>by unfold KVRMade at h;split at h<;>cases h;exact tr (xbps _ _ hp)
theorem xbl0:TK BVClone:=tc0 EVRId KVRId xbuz Tryz.func27 fun xs obs y h hp=>by unfold KVRId at h;split at h<;>cases h;exact tr (xbwz _ hp)
theorem xbu0:TK BVSeq:=tc0 EVClone KVClone xbl0 Tryz.func90 fun xs obs y h hp=>by unfold KVClone at h;split at h<;>cases h;exact tr (xbpp _ hp)
theorem xbrf:TK BVRSeq:=tc0 EVSeq KVSeq xbu0 Tryz.func65 fun xs obs y h hp=>by unfold KVSeq at h;split at h<;>cases h;exact tr (xbw0 _ hp)
theorem xbrg:TK BVRSet:=tc0 EVRSeq KVRSeq xbrf Tryz.func38 fun xs obs y h hp=>by unfold KVRSeq at h;split at h<;>cases h;exact tr (xbt9 _ hp)
theorem xbq1:TK BTCmp4:=tcT EVRSet KVRSet xbrg Tryz.func67 [(true,10),(true,4)] ⟨⟨_,rfl,qy8⟩,⟨_,rfl,q4q⟩,trivial⟩ fun xs obs y h hp=>by unfold KVRSet at h;split at h<;>cases h;exact tr (xbua _ hp)
theorem xblt:TK BTSwap4:=tc0 ETCmp4 KTCmp4 xbq1 Tryz.func85 fun xs obs y h hp=>by unfold KTCmp4 at h;split at h<;>cases h;rename_i tp bp kp wp tq bq kq wq;exact tr (xbtt tp bp kp wp tq bq kq wq hp)
theorem xbq7:TK BTRot4:=tcT ETSwap4 KTSwap4 xblt Tryz.func138 [(true,1)] ⟨⟨_,rfl,qyo⟩,trivial⟩ fun xs obs y h hp=>by unfold KTSwap4 at h;split at h<;>cases h;exact tr (xbpi _ _ _ _ _ hp)
theorem xban:TK BTSym4:=tcT ETRot4 KTRot4 xbq7 Tryz.func135 [(true,2)] ⟨⟨_,rfl,q4e⟩,trivial⟩ fun xs obs y h hp=>by unfold KTRot4 at h;split at h<;>cases h;exact tr (xbtz _ _ _ _ _ hp)
theorem qsh(hm:MX): ∀rk,OKS 125 (quy rk) STSym4
 | 0=>qde fun xs obs h=>by
  unfold quy at h;split at h
  ·simp only[zab,decide_eq_true_eq] at h;omega
  ·cases h
 | rk+1=>qbk (E:=ETSym4 rk) (N:=40) (keep:=false) hm (fun g=>(qak (xban hm 85) (qak (qsh hm rk) (qak (xban hm 135) qbs)))) Tryz.func125 rfl rfl (q9h rk) rfl (by
  intro xs obs out hp h;unfold STSym4 at h;split at h
  ·rename_i m a p b l;refine⟨by simp[Tryz.f125], ?_⟩;rw[xbdi];have hp:(rows4 m l&&(qdg m a p b&&(half4 l a p b&&decide ((b - a).toNat<rk+1))))=true:=hp;simp only[zab,decide_eq_true_eq] at hp;exact(xbt4 rk m a p b l (by rw[hp.1,hp.2.1,hp.2.2.1];rfl) hp.2.2.2).trans h
  ·cases h)
theorem xbba(hm:MX):OKS 125 qu1 STSym4:=
 qb8 (fun rk=>qsh hm rk) fun xs obs h=>by
  unfold qu1 at h;split at h
  ·rename_i m a p b l;simp only[zab] at h;refine⟨(b - a).toNat+1, ?_⟩;show(rows4 m l&&(qdg m a p b&&(half4 l a p b&&decide ((b - a).toNat<(b - a).toNat+1))))=true;rw[h.1,h.2.1,h.2.2,decide_eq_true (Nat.lt_succ_self _)];rfl
  ·cases h
theorem xbq3:TK BTIns4:=fun hm=>tabC (K:=ofS qu1 STSym4) (xbba hm) (xban hm)
theorem xbra:TK BTSta4:=tcT ETIns4 KTIns4 xbq3 Tryz.func124 [(true,4),(true,1)] ⟨⟨_,rfl,q4b⟩,⟨_,rfl,q4a⟩,trivial⟩ fun xs obs y h hp=>by unfold KTIns4 at h;split at h<;>cases h;exact tr (xbtv _ _ _ _ hp)
theorem xblr:TK BTSort4:=tcT ETSta4 KTSta4 xbra Tryz.func107 [(true,2),(true,9),(true,7)] ⟨⟨_,rfl,q4i⟩,⟨_,rfl,q4k⟩,⟨_,rfl,q4j⟩,trivial⟩ fun xs obs y h hp=>by unfold KTSta4 at h;split at h<;>cases h;exact tr (xbt2 _ _ _ hp)
theorem xbq0:TK BTCmp3:=tc0 ETSort4 KTSort4 xblr Tryz.func84 fun xs obs y h hp=>by unfold KTSort4 at h;split at h<;>cases h;exact tr (xbpg _ _ hp)
theorem xbls:TK BTSwap3:=tc0 ETCmp3 KTCmp3 xbq0 Tryz.func62 fun xs obs y h hp=>by unfold KTCmp3 at h;split at h<;>cases h;rename_i op kp wp oq kq wq;exact tr (xbts op kp wp oq kq wq hp)
theorem xbq6:TK BTRot3:=tcT ETSwap3 KTSwap3 xbls Tryz.func136 [(true,1)] ⟨⟨_,rfl,qyn⟩,trivial⟩ fun xs obs y h hp=>by unfold KTSwap3 at h;split at h<;>cases h;exact tr (xbph _ _ _ _ _ hp)
theorem xbam:TK BTSym3:=tcT ETRot3 KTRot3 xbq6 Tryz.func126 [(true,2)] ⟨⟨_,rfl,q4d⟩,trivial⟩ fun xs obs y h hp=>by unfold KTRot3 at h;split at h<;>cases h;exact tr (xbty _ _ _ _ _ hp)
theorem qsg(hm:MX): ∀rk,OKS 109 (qux rk) STSym3
 | 0=>qde fun xs obs h=>by
  unfold qux at h;split at h
  ·simp only[zab,decide_eq_true_eq] at h;omega
  ·cases h
 | rk+1=>qbk (E:=ETSym3 rk) (N:=40) (keep:=false) hm (fun g=>(qak (xbam hm 62) (qak (qsg hm rk) (qak (xbam hm 126) qbs)))) Tryz.func109 rfl rfl (q9g rk) rfl (by
  intro xs obs out hp h;unfold STSym3 at h;split at h
  ·rename_i m a p b l;refine⟨by simp[Tryz.f109], ?_⟩;rw[xbdh];have hp:(rows3 m l&&(qdg m a p b&&(half3 l a p b&&decide ((b - a).toNat<rk+1))))=true:=hp;simp only[zab,decide_eq_true_eq] at hp;exact(xbt3 rk m a p b l (by rw[hp.1,hp.2.1,hp.2.2.1];rfl) hp.2.2.2).trans h
  ·cases h)
theorem xba9(hm:MX):OKS 109 qu0 STSym3:=
 qb8 (fun rk=>qsg hm rk) fun xs obs h=>by
  unfold qu0 at h;split at h
  ·rename_i m a p b l;simp only[zab] at h;refine⟨(b - a).toNat+1, ?_⟩;show(rows3 m l&&(qdg m a p b&&(half3 l a p b&&decide ((b - a).toNat<(b - a).toNat+1))))=true;rw[h.1,h.2.1,h.2.2,decide_eq_true (Nat.lt_succ_self _)];rfl
  ·cases h
theorem xbq2:TK BTIns3:=fun hm=>tabC (K:=ofS qu0 STSym3) (xba9 hm) (xbam hm)
theorem xbq9:TK BTSta3:=tcT ETIns3 KTIns3 xbq2 Tryz.func108 [(true,4),(true,1)] ⟨⟨_,rfl,q39⟩,⟨_,rfl,q38⟩,trivial⟩ fun xs obs y h hp=>by unfold KTIns3 at h;split at h<;>cases h;exact tr (xbtu _ _ _ _ hp)
theorem xblq:TK BTSort3:=tcT ETSta3 KTSta3 xbq9 Tryz.func86 [(true,2),(true,9),(true,7)] ⟨⟨_,rfl,q4f⟩,⟨_,rfl,q4h⟩,⟨_,rfl,q4g⟩,trivial⟩ fun xs obs y h hp=>by unfold KTSta3 at h;split at h<;>cases h;exact tr (xbt1 _ _ _ hp)
theorem xblo:TK BTClone:=tc0 ETSort3 KTSort3 xblq Tryz.func61 fun xs obs y h hp=>by unfold KTSort3 at h;split at h<;>cases h;exact tr (xbpf _ _ hp)
theorem xbux:TK BTTw1:=tc0 ETClone KTClone xblo Tryz.func58 fun xs obs y h hp=>by unfold KTClone at h;split at h<;>cases h;exact tr (xbpb _ hp)
theorem xbuq:TK BTOn1:=tc0 ETTw1 KTTw1 xbux Tryz.func55 fun xs obs y h hp=>by unfold KTTw1 at h;split at h<;>cases h;rename_i o k p q;exact tr (xbwx o k p q hp)
theorem xbun:TK BTIdx:=tc0 ETOn1 KTOn1 xbuq Tryz.func49 fun xs obs y h hp=>by unfold KTOn1 at h;split at h<;>cases h;rename_i o k p;exact tr (xbwq o k p hp)
theorem xbuk:TK BTCon:=tcT ETIdx KTIdx xbun Tryz.func48 [(true,2)] ⟨⟨_,rfl,q6n⟩,trivial⟩ fun xs obs y h hp=>by
  unfold KTIdx at h;split at h
  ·cases h;exact tr (xbpc _ _ _ hp)
  ·cases h;exact tr (xbpd _ _ hp)
  ·cases h
theorem xblu:TK BTTwice:=tc0 ETCon KTCon xbuk Tryz.func54 fun xs obs y h hp=>by unfold KTCon at h;split at h<;>cases h;exact tr (xbwl _ _ _ hp)
theorem xbq5:TK BTOrd1:=tcT ETTwice KTTwice xblu Tryz.func29 [(true,2)] ⟨⟨_,rfl,qyz⟩,trivial⟩ fun xs obs y h hp=>by unfold KTTwice at h;split at h<;>cases h;exact tr (xbpj _ hp)
theorem xbup:TK xbsj:=tc0 ETOrd1 KTOrd1 xbq5 Tryz.func57 fun xs obs y h hp=>by unfold KTOrd1 at h;split at h<;>cases h;exact tr (xbtx _ _ _ hp)
theorem xbuw:TK xbsl:=tcT xbu7 xbso xbup Tryz.func56 [(true,3)] ⟨⟨_,rfl,q6r⟩,trivial⟩ fun xs obs y h hp=>by unfold xbso at h;split at h<;>cases h;exact tr (xbwp _ hp)
theorem xbuv:TK xbsk:=tcT xbu9 xbsq xbuw Tryz.func59 [(true,3)] ⟨⟨_,rfl,q6x⟩,trivial⟩ fun xs obs y h hp=>by unfold xbsq at h;split at h<;>cases h;exact tr (xbww _ hp)
theorem xbus:TK BTOrd:=tcT xbu8 xbsp xbuv Tryz.func35 [(true,3)] ⟨⟨_,rfl,q6v⟩,trivial⟩ fun xs obs y h hp=>by unfold xbsp at h;split at h<;>cases h;exact tr (xbwv _ hp)
theorem xbw2:TK BTNd:=tc0 ETOrd KTOrd xbus Tryz.func30 fun xs obs y h hp=>by unfold KTOrd at h;split at h<;>cases h;exact tr (xbws _ _ hp)
theorem xbuo:TK xbsi:=tc0 ETNd KTNd xbw2 Tryz.func32 fun xs obs y h hp=>by unfold KTNd at h;split at h<;>cases h;exact tr (nTNd _ _ hp)
theorem xbuj:TK BTBox:=tcT xbu6 xbsn xbuo Tryz.func31 [(true,3)] ⟨⟨_,rfl,q6p⟩,trivial⟩ fun xs obs y h hp=>by unfold xbsn at h;split at h<;>cases h;exact tr (xbwo _ hp)
theorem xbq4:TK BTMake:=tcT ETBox KTBox xbuj Tryz.func34 [(true,3)] ⟨⟨_,rfl,q6j⟩,trivial⟩ fun xs obs y h hp=>by unfold KTBox at h;split at h<;>cases h;exact tr (xbwk _ _ hp)
theorem xbuu:TK BTSa1:=tcT ETMake KTMake xbq4 Tryz.func8 [(true,5)] ⟨⟨_,rfl,q4c⟩,trivial⟩ fun xs obs y h hp=>by unfold KTMake at h;split at h<;>cases h;exact tr (xbtw _ hp)
theorem xbul:TK xbsh:=tc0 ETSa1 KTSa1 xbuu Tryz.func40 fun xs obs y h hp=>by unfold KTSa1 at h;split at h<;>cases h;exact tr (xbwu _ _ _ _ hp)
theorem xbq8:TK BTSame:=tcT xbu5 xbsm xbul Tryz.func39 [(true,4)] ⟨⟨_,rfl,q6l⟩,trivial⟩ fun xs obs y h hp=>by unfold xbsm at h;split at h<;>cases h;exact tr (xbwm _ _ hp)
theorem xbum:TK BTFit:=tc0 ETSame KTSame xbq8 Tryz.func13 fun xs obs y h hp=>by unfold KTSame at h;split at h<;>cases h;exact tr (xbt0 _ _ hp)
theorem xbur:TK BTOne:=tc0 ETFit KTFit xbum Tryz.func10 fun xs obs y h hp=>by unfold KTFit at h;split at h<;>cases h;exact tr (xbwn _ hp)
theorem xbw3:TK BUNd:=tc0 ETOne KTOne xbur Tryz.func19 fun xs obs y h hp=>by unfold KTOne at h;split at h<;>cases h;exact tr (xbwr _ _ hp)
theorem xblz:TK BUWhole:=tc0 EUNd KUNd xbw3 Tryz.func66 fun xs obs y h hp=>by unfold KUNd at h;split at h<;>cases h;exact tr (nUNd _ _ hp)
theorem xblw:TK BUAttrs:=tcT EUWhole KUWhole xblz Tryz.func36 [(true,8),(true,5)] ⟨⟨_,rfl,qy7⟩,⟨_,rfl,qy6⟩,trivial⟩ fun xs obs y h hp=>by unfold KUWhole at h;split at h<;>cases h;exact tr (xbpo _ hp)
theorem xbrb:TK BUMake:=tcT EUAttrs KUAttrs xblw Tryz.func37 [(true,3)] ⟨⟨_,rfl,qy1⟩,trivial⟩ fun xs obs y h hp=>by unfold KUAttrs at h;split at h<;>cases h;rename_i t b k;exact tr (xbpl t b k hp)
theorem xbrc:TK BUSame:=tc0 EUMake KUMake xbrb Tryz.func9 fun xs obs y h hp=>by unfold KUMake at h;split at h<;>cases h;exact tr (xbt5 _ hp)
theorem xbuy:TK BUFit:=tcT EUSame KUSame xbrc Tryz.func12 [(true,4)] ⟨⟨_,rfl,q4p⟩,trivial⟩ fun xs obs y h hp=>by unfold KUSame at h;split at h<;>cases h;exact tr (xbt6 _ _ hp)
theorem xblx:TK BUSmall:=tc0 EUFit KUFit xbuy Tryz.func11 fun xs obs y h hp=>by unfold KUFit at h;split at h<;>cases h;exact tr (xbwy _ hp)
theorem xbe2:TK BWASmall:=tcT EUSmall KUSmall xblx Tryz.func26 [(true,7),(true,3)] ⟨⟨_,rfl,qy4⟩,⟨_,rfl,qy3⟩,trivial⟩ fun xs obs y h hp=>by unfold KUSmall at h;split at h<;>cases h;exact tr (xbpm _ _ hp)
theorem xbe1:TK BWAAwake:=tc0 EWASmall KWASmall xbe2 Tryz.func6 fun xs obs y h hp=>by unfold KWASmall at h;split at h<;>cases h;exact tr (xbkr _ hp)
theorem qfg:TK BWATells:=tc0 EWAAwake KWAAwake xbe1 Tryz.func7 fun xs obs y h hp=>by unfold KWAAwake at h;split at h<;>cases h;exact tr (xbkq hp)
theorem q0m(hm:MX):OKS 3 qqd SWATells:=
 qbk (E:=EWATells) (N:=40) (keep:=false) hm (fun g=>(qak (qfg hm 6) (qak (qfg hm 7) (qak (qfg hm 8) (qak (qfg hm 9) (qak (qfg hm 10) (qak (qfg hm 11) (qak (qfg hm 12) (qak (qfg hm 13) qbs))))))))) Tryz.func3 rfl rfl qzx rfl (by
  intro xs obs out hp h;unfold SWATells at h;split at h
  ·refine⟨by simp[Tryz.f3], ?_⟩;rw[q44];exact(xbks _ _ hp).trans h
  ·cases h)
end Go.Proofs.YtoiikagnjcjccaaGreatDoorA
