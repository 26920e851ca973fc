/-
 The library's comparison of bytes: its contract holds. Conditions: none.
-/
import Derived.Test.YtoiikagnjcjccaaGreatDoorT4
import Derived.Lib.BytesEntry
import Derived.Test.YtoiikagnjcjccaaGreatDoorK3
import Derived.Shelf.Spec.SlicesGrow
set_option linter.unusedVariables false
set_option linter.unusedSimpArgs false
set_option maxRecDepth 100000
namespace Go.Proofs.YtoiikagnjcjccaaGreatDoorA
theorem xbaz{P:Program}{w:World}{Im:Nat->Prop}{l:List Int}{v:Value}(h:CRep w Im (.sli .u8 l) v):(Extern.Bytes.bytesOf v).run P w=.ok ⟨(Lib.bytesOf l).toArray⟩ w:=by
 cases h with
 | sli _ _ a len cap hl hc hcell=>
  cases a with
  | none=>
   have:l=[]:=by
    cases l with
    | nil=>rfl
    | cons x r=>obtain⟨ad,e,_⟩:=hcell 0 x rfl;cases e
   subst this;rfl
  | some ad=>
   subst hl;have:=Lib.run_loadBytesX (P:=P) w l ad .empty (fun j x hj=>by obtain⟨ad',e,_,hc⟩:=hcell j x hj;cases e;exact hc);refine this.trans ?_;congr 1;apply ByteArray.ext;show(#[]:Array UInt8)++(Lib.bytesOf l).toArray=(Lib.bytesOf l).toArray;simp
theorem q9d: ∀(a b:List Int),(∀x∈a,0<=x/\x<=255)->(∀x∈b,0<=x/\x<=255)->Lib.compareBytes (Lib.bytesOf a) (Lib.bytesOf b)=qao a b
 | [],[],_,_=>rfl
 | [],_::_,_,_=>rfl
 | _::_,[],_,_=>rfl
 | x::a,y::b,ha,hb=>by
  have ih:=q9d a b (fun z hz=>ha z (zaw _ hz)) (fun z hz=>hb z (zaw _ hz));have hx:=ha x (zbj ..);have hy:=hb y (zbj ..);have e1:(UInt8.ofNat x.toNat<UInt8.ofNat y.toNat)↔x<y:=by rw[UInt8.lt_iff_toNat_lt,zde,zde];omega
  have e2:(UInt8.ofNat y.toNat<UInt8.ofNat x.toNat)↔y<x:=by rw[UInt8.lt_iff_toNat_lt,zde,zde];omega
  show(if UInt8.ofNat x.toNat<UInt8.ofNat y.toNat then(-1:Int) else if UInt8.ofNat y.toNat<UInt8.ofNat x.toNat then 1 else Lib.compareBytes (Lib.bytesOf a) (Lib.bytesOf b))=(if x<y then -1 else if y<x then 1 else qao a b);simp only[e1,e2,ih]
theorem xbsx{P:Program}{w:World}{Im:Nat->Prop}{a b:List Int}{va vb:Value}(ha:CRep w Im (.sli .u8 a) va)(hb:CRep w Im (.sli .u8 b) vb)(h1: ∀x∈a,0<=x/\x<=255)(h2: ∀x∈b,0<=x/\x<=255):
  (Extern.BytealgCompare.compare #[va,vb]).run P w=.ok (.int .i64 (qao a b)) w:=by
 change Sem.run P (do pure (goInt (Extern.BytealgCompare.cmp (<- Extern.Bytes.bytesOf va) (<- Extern.Bytes.bytesOf vb)))) w=_;simp only[Sem.run_bind,Sem.run_pure,xbaz ha,xbaz hb,Result.andThen];rw[Lib.cmp_eq];show Result.ok (Value.int .i64 (Lib.compareBytes (Lib.bytesOf a) (Lib.bytesOf b))) w=_;rw[q9d a b h1 h2]
theorem qwn(hm:Tryz.prog.follows .mixedOrders=true):Sound Tryz.prog qa8 87 (fun xs obs=>cond (qhg xs obs) (SBACompare xs obs).eval none):=by
 intro xs obs out w Im ρ bl vs hs hpre;obtain⟨h1,h2⟩:=qaa hs;unfold qhg at h1;split at h1
 ·rename_i a b;simp only[zab] at h1;have h2:some (Out.ret [.cl (.int .i64 (qbk a b))] [])=some out:=h2;cases h2;have hl:vs.length=2:=hpre.reps.1
  match vs,hl,hpre with
  | [va,vb],_,hpre=>
   have ra:CRep w Im (.sli .u8 a) va:=by have:=hpre.reps.2 0 _ _ rfl rfl;cases this;assumption
   have rb:CRep w Im (.sli .u8 b) vb:=by have:=hpre.reps.2 1 _ _ rfl rfl;cases this;assumption
   refine .inr ⟨.int .i64 (qbk a b),w, ?_,[.int .i64 (qbk a b)],Im,ρ,rfl,⟨Fr.refl w bl,hpre.gam,fun j o o' hj=>by cases hj⟩,rfl,fun j c v hj hv=> ?_⟩
   ·rw[run_callFunc_extern (e:=Extern.BytealgCompare.compare) Tryz.func87 rfl rfl rfl (by kernel_rfl)];show Result.andThen ((Extern.BytealgCompare.compare #[va,vb]).run Tryz.prog w) _=_;rw[xbsx ra rb (qax h1.1).2 (qax h1.2).2];unfold qbk;rw[qab];rfl
   ·match j,hj,hv with
    | 0,hj,hv=>cases hj;cases hv;exact .cl _ _ (.int ..)
    | j+1,hj,hv=>cases hj
 ·cases h1
def qyf:Go.Shelf.Ren:=⟨fun _=>119,fun t=>cond (Nat.beq t 25) 5 (cond (Nat.beq t 22) 31 t),fun g=>g⟩
theorem xbau(hm:Tryz.prog.follows .mixedOrders=true):Lays8.n4 Tryz.prog qyf where
 mixed:=hm
 f4:=⟨Tryz.f119.name,by decide,by kernel_rfl⟩
 t0:=Tryz.underlying0
 a0:=fun w=>by kernel_rfl
 z0:=fun w=>by kernel_rfl
 v0:=fun w=>by kernel_rfl
 t3:=Tryz.underlying3
 a3:=fun w=>by kernel_rfl
 z3:=fun w=>by kernel_rfl
 v3:=fun w=>by kernel_rfl
 t4:=Tryz.underlying4
 a4:=fun w=>by kernel_rfl
 z4:=fun w=>by kernel_rfl
 v4:=fun w=>by kernel_rfl
 t9:=Tryz.underlying9
 a9:=fun w=>by kernel_rfl
 z9:=fun w=>by kernel_rfl
 v9:=fun w=>by kernel_rfl
 t20:=Tryz.underlying20
 a20:=fun w=>by kernel_rfl
 z20:=fun w=>by kernel_rfl
 v20:=fun w=>by kernel_rfl
 t22:=Tryz.underlying31
 a22:=fun w=>by kernel_rfl
 z22:=fun w=>by kernel_rfl
 v22:=fun w=>by kernel_rfl
theorem info5:(Tryz.prog.info? 5).map (fun i=>(i.zero,i.size,i.bytes))=some (some (.int .u8 0),1,1):=by kernel_rfl
theorem xbac{bl:Nat->Prop}{w w':World}{Im:Nat->Prop}{ρ ρ':Nat->Loc}{l:Loc}(h:Gam w.heap.size bl Im w Im ρ [])(hsz:w.heap.size<=w'.heap.size)(hρ:ρ' 0=l)(ho:ORep w' Im ρ' (shOf [(0,⟨.ints .u8 [],false⟩)]) (.ints .u8 []) l)(hl: ∀b x y,l=some (b,x,y)->b<w'.heap.size/\¬Im b/\w.heap.size<=b):
  Gam w.heap.size bl Im w' Im ρ' [(0,⟨.ints .u8 [],false⟩)]:=by
 have one: ∀(p:Nat) (o:Obj),qaj ([(0,⟨.ints .u8 [],false⟩)]:Heap) p=some o->p=0/\o=⟨.ints .u8 [],false⟩:=fun p o hp=>by
  simp only[qaj] at hp
  cases hb:Nat.beq 0 p with
  | true=>rw[hb] at hp;cases hp;exact⟨(qag.1 hb).symm,rfl⟩
  | false=>rw[hb] at hp;cases hp
 refine⟨fun b hb=>zbg (h.im b hb) hsz,h.i0,fun p o hp=> ?_,fun p q o o' b x y x' y' hp hq _ _ hne=> ?_,fun p o b x y hp hr=> ?_,h.imo⟩
 ·obtain⟨rfl,rfl⟩:=one p o hp;rw[hρ];exact ho
 ·exact absurd ((one p o hp).1.trans (one q o' hq).1.symm) hne
 ·obtain⟨rfl,rfl⟩:=one p o hp;rw[hρ] at hr;obtain⟨h1,h2,h3⟩:=hl b x y hr;exact⟨h1,fun e=>absurd e zb8,fun _=>⟨h2,.inr h3⟩⟩
theorem xbc6(hm:Tryz.prog.follows .mixedOrders=true):Sound Tryz.prog qa8 119 (fun xs obs=>cond (qv9 xs obs) (SSGrow xs obs).eval none):=by
 intro xs obs out w Im ρ bl vs hs hpre;obtain⟨h1,h2⟩:=qaa hs;unfold qv9 at h1;split at h1
 ·rename_i n;have h2:some (Out.ret [.ref 0 0 0 true 1] [some ⟨.ints .u8 qbe,false⟩])=some out:=h2;cases h2;have hn:0<=n/\n<=100000000:=by unfold xbfg at h1;rw[qab] at h1;exact of_decide_eq_true h1
  obtain⟨m,rfl⟩: ∃m:Nat,n=m:=⟨n.toNat,by omega⟩;have hl:vs.length=2:=hpre.reps.1
  match vs,hl,hpre with
  | [va,vb],_,hpre=>
   have ra:=hpre.reps.2 0 _ _ rfl rfl;have rb:=hpre.reps.2 1 _ _ rfl rfl;cases ra;obtain rfl:vb=.int .i64 m:=by
    cases rb with
    | cl _ _ h=>cases h;rfl
   refine .inl ⟨?_, ?_⟩
   ·have hn': ¬Tryz.f119.name= "runtime.NumGoroutine" :=of_decide_eq_true (by kernel_rfl);obtain⟨c,hc⟩: ∃c,Tryz.f119.body=some c:=⟨_,rfl⟩;simp[callFunc,Tryz.func119,hn',hc]
   ·have e:qbe=[]:=qab _;rw[e];have hg:Gam w.heap.size bl Im w Im ρ []:=hpre.gam;by_cases hz:m=0
    ·subst hz;refine(Any8.slices_Grow_room (xbau hm) none 0 0 0 w (zar _) (by omega) (by omega) (zar _)).mono fun e w' ⟨he,hw⟩=> ?_;subst he;subst hw;refine⟨[.slice none 0 0],Im,fun _=>none,rfl,⟨Fr.refl _ bl,xbac hg (zar _) rfl ⟨rfl,rfl,trivial⟩ (fun b x y h=>by cases h),fun j o o' hj=>by cases hj⟩,rfl,fun j c v hj hv=> ?_⟩
     match j,hj,hv with
     | 0,hj,hv=>cases hj;cases hv;exact .refV 0 ⟨0,1,false⟩ true 1 rfl rfl rfl rfl
     | j+1,hj,hv=>cases hj
    ·obtain⟨i0,hi0,hi⟩:=zaq.1 info5;simp only[zbb] at hi;obtain⟨hi1,hi2,hi3⟩:=hi;refine(Any8.slices_Grow_grow (xbau hm) i0 (.int .u8 0) hi0 hi1 (by omega) none 0 0 m [] w (zar _) (by omega) (by rw[hi3];omega) (by omega) (by simp) (fun _=>rfl) (fun a h=>by cases h)).mono fun e w' ⟨he,hw⟩=> ?_;have hG:0+m<=grownCap w (0+m) 0 (qyf.t 25):=grownCap_ge w _ _ _;generalize grownCap w (0+m) 0 (qyf.t 25)=G at*;subst he;generalize hcs:([]:List Value).toArray++Builtin.zeroCells (Value.int .u8 0).cells (0+m - 0)++Builtin.zeroCells (Value.int .u8 0).cells (G - (0+m))=cs at hw;have hsz:cs.size=G:=by rw[<- hcs,zdq,zdq,size_zeroCells,size_zeroCells];simp[Value.cells];omega
     have hheap:w'.heap=w.heap.push (.cells cs (qyf.t 25) (0,0)):=by rw[hw];rfl
     have hb:w'.heap[w.heap.size]? =some (.cells cs (qyf.t 25) (0,0)):=by rw[hheap];simp
     have hFr:Fr w bl w':=by refine⟨by rw[hw];rfl,by rw[hw];rfl,by rw[hw];rfl,by rw[hheap,zdl];omega,fun b hb' _=>by rw[hheap,zdk,if_neg (by omega)]⟩
     refine⟨[.slice (some ⟨w.heap.size,0,none⟩) 0 G],Im,fun _=>some (w.heap.size,0,G),rfl,⟨hFr,xbac hg hFr.size rfl ⟨trivial,by rw[hheap];simp,zcc _,fun i hi=>⟨?_, ?_⟩,fun j c hj=>by simp[qaf] at hj⟩ (fun b x y h=> ?_),fun j o o' hj=>by cases hj⟩,rfl,fun j c v hj hv=> ?_⟩
     ·simp[World.cell?,hb,hsz,hi]
     ·simp[World.frozen?,hb]
     ·cases h;exact⟨by rw[hheap];simp,fun hI=>Nat.lt_irrefl _ (hg.im _ hI),zar _⟩
     ·match j,hj,hv with
      | 0,hj,hv=>
       cases hj;cases hv;exact .ref 0 0 0 true 1 ⟨0,1,false⟩ w.heap.size 0 G ⟨w.heap.size,0,none⟩ G rfl rfl rfl (zcc _) (zar _) (fun _=>rfl) (fun _=>rfl) (by omega)
      | j+1,hj,hv=>cases hj
 ·cases h1
theorem qcg{P:Program}{glob:Nat->Option CV}{g:FuncId}{p:List V->List Obj->Bool}{q:Nat->List V->List Obj->Bool}{S:List V->List Obj->Tree}(h: ∀rk,Sound P glob g (fun xs obs=>cond (q rk xs obs) (S xs obs).eval none))(hp: ∀xs obs,p xs obs=true->∃rk,q rk xs obs=true):
  Sound P glob g (fun xs obs=>cond (p xs obs) (S xs obs).eval none):=by
 intro xs obs out w Im ρ bl vs hs;obtain⟨h1,h2⟩:=qaa hs;obtain⟨rk,hq⟩:=hp xs obs h1;exact h rk xs obs out w Im ρ bl vs (by show cond (q rk xs obs) _ _=_;rw[hq];exact h2)
theorem qdo{P:Program}{glob:Nat->Option CV}{g:FuncId}{p:List V->List Obj->Bool}{S:List V->List Obj->Tree}(h: ∀xs obs, ¬p xs obs=true):Sound P glob g (fun xs obs=>cond (p xs obs) (S xs obs).eval none):=by intro xs obs out w Im ρ bl vs hs;exact absurd (qaa hs).1 (h xs obs)
theorem xbc9{P:Program}{glob:Nat->Option CV}{g:FuncId}{p:List V->List Obj->Bool}:Sound P glob g (fun xs obs=>cond (p xs obs) ((fun _ _=>Tree.fail:List V->List Obj->Tree) xs obs).eval none):=by intro xs obs out w Im ρ bl vs hs;cases(qaa hs).2
abbrev MX:Prop:=Tryz.prog.follows .mixedOrders=true
abbrev TK(B:Nat->Ct):Prop:=MX->xbej Tryz.prog qa8 B
abbrev OKS(g:FuncId)(p:List V->List Obj->Bool)(S:List V->List Obj->Tree):Prop:=Sound Tryz.prog qa8 g (fun xs obs=>cond (p xs obs) (S xs obs).eval none)
theorem xbnj:TK BDigits:=fun _=>tab0
theorem xbs1:TK BDLeap:=tc0 EDigits KDigits xbnj Tryz.func130 fun xs obs y h hp=>by unfold KDigits at h;split at h<;>cases h;exact tr (xbrb _ hp)
theorem xbsy:TK BDDays:=tc0 EDLeap KDLeap xbs1 Tryz.func139 fun xs obs y h hp=>by unfold KDLeap at h;split at h<;>cases h;rename_i d0 d1 d2 d3 d4 d5;exact tr (xbwc d0 d1 d2 d3 d4 d5 hp)
theorem xbxv:TK BDFit:=tc0 EDDays KDDays xbsy Tryz.func137 fun xs obs y h hp=>by unfold KDDays at h;split at h<;>cases h;rename_i d0 d1 d2 d3 d4 d5;exact tr (xbwa d0 d1 d2 d3 d4 d5 hp)
theorem xbs4:TK BDSecs:=tc0 EDFit KDFit xbxv Tryz.func131 fun xs obs y h hp=>by unfold KDFit at h;split at h<;>cases h;exact tr (xbz2 _ _ _ _ _ _ hp)
theorem xbth:TK BSRead:=tc0 EDSecs KDSecs xbs4 Tryz.func132 fun xs obs y h hp=>by unfold KDSecs at h;split at h<;>cases h;exact tr (xbwe _ _ _ _ _ _ hp)
theorem xbtc:TK BRLeap:=tc0 ESRead KSRead xbth Tryz.func116 fun xs obs y h hp=>by unfold KSRead at h;split at h<;>cases h;exact tr (xbwt _ hp)
theorem xbs9:TK BRDays:=tc0 ERLeap KRLeap xbtc Tryz.func134 fun xs obs y h hp=>by unfold KRLeap at h;split at h<;>cases h;exact tr (xbwo _ hp)
theorem xbns:TK BRYears:=tc0 ERDays KRDays xbs9 Tryz.func122 fun xs obs y h hp=>by unfold KRDays at h;split at h<;>cases h;exact tr (xbwk _ _ hp)
theorem xbgw:TK BRNumber:=tc0 ERYears KRYears xbns Tryz.func123 fun xs obs y h hp=>by unfold KRYears at h;split at h<;>cases h;exact tr (xbro _ hp)
theorem xbtd:TK BRRead:=tcT ERNumber KRNumber xbgw Tryz.func121 [(true,3)] ⟨⟨_,rfl,qw4⟩,trivial⟩ fun xs obs y h hp=>by unfold KRNumber at h;split at h<;>cases h;exact tr (xbmr _ hp)
theorem xbnf:TK BDBoxed:=tcT ERRead KRRead xbtd Tryz.func106 [(true,13)] ⟨⟨_,rfl,qzd⟩,trivial⟩ fun xs obs y h hp=>by unfold KRRead at h;split at h<;>cases h;exact tr (xbwp _ hp)
theorem xbnp:TK BRBoxed:=tc0 EDBoxed KDBoxed xbnf Tryz.func94 fun xs obs y h hp=>by unfold KDBoxed at h;split at h<;>cases h;exact tr (xbq5 _ hp)
theorem xbnh:TK BDKnown:=tc0 ERBoxed KRBoxed xbnp Tryz.func77 fun xs obs y h hp=>by unfold KRBoxed at h;split at h<;>cases h;exact tr (xbrk _ hp)
theorem xbgx:TK BRTagged:=tc0 EDKnown KDKnown xbnh Tryz.func97 fun xs obs y h hp=>by unfold KDKnown at h;split at h<;>cases h;exact tr (xbq8 _ hp)
theorem xbci:TK qtu:=tc0 ERTagged KRTagged xbgx Tryz.func76 fun xs obs y h hp=>by unfold KRTagged at h;split at h<;>cases h;exact tr (xbms _ hp)
theorem xbgp:TK BDNumber:=tc0 xbep qk8 xbci Tryz.func99 fun xs obs y h hp=>by unfold qk8 at h;split at h<;>cases h;exact tr (xbf1 _ hp)
theorem xbgv:TK qyz:=tc0 EDNumber KDNumber xbgp Tryz.func113 fun xs obs y h hp=>by unfold KDNumber at h;split at h<;>cases h;exact tr (xbmk _ hp)
theorem xbni:TK BDStrip:=tc0 xbk3 qy4 xbgv Tryz.func103 fun xs obs y h hp=>by unfold qy4 at h;split at h<;>cases h;exact tr (xbmq _ hp)
theorem xbck:TK qtv:=tc0 EDStrip KDStrip xbni Tryz.func114 fun xs obs y h hp=>by unfold KDStrip at h;split at h<;>cases h;exact tr (xbq9 _ hp)
theorem xbs8:TK BRCont:=tc0 xbeq qtz xbck Tryz.func104 fun xs obs y h hp=>by unfold qtz at h;split at h<;>cases h;exact tr (xbf5 _ hp)
theorem xbte:TK BRRune:=tc0 ERCont KRCont xbs8 Tryz.func133 fun xs obs y h hp=>by unfold KRCont at h;split at h<;>cases h;exact tr (xbwj _ _ hp)
theorem xbtf:TK BRUtf8:=tcT ERRune KRRune xbte Tryz.func120 [(false,10),(false,8)] ⟨⟨_,rfl,qy0⟩,⟨_,rfl,q5l⟩,trivial⟩ fun xs obs y h hp=>by unfold KRRune at h;split at h<;>cases h;exact tr (xbwq _ _ hp)
theorem xbxw:TK BOFit:=tcT ERUtf8 KRUtf8 xbtf Tryz.func105 [(true,2)] ⟨⟨_,rfl,q5p⟩,trivial⟩ fun xs obs y h hp=>by unfold KRUtf8 at h;split at h<;>cases h;exact tr (xbws _ hp)
theorem xbs7:TK BR2Fit:=tc0 EOFit KOFit xbxw Tryz.func60 fun xs obs y h hp=>by unfold KOFit at h;split at h<;>cases h;exact tr (xbz4 _ hp)
theorem xbgt:TK BR2First:=tc0 ER2Fit KR2Fit xbs7 Tryz.func82 fun xs obs y h hp=>by unfold KR2Fit at h;split at h<;>cases h;exact tr (xbwi _ hp)
theorem xbgq:TK BONumber:=tc0 ER2First KR2First xbgt Tryz.func111 fun xs obs y h hp=>by unfold KR2First at h;split at h<;>cases h;exact tr (xbmo _ hp)
theorem qyl:TK BONumbers:=tcT EONumber KONumber xbgq Tryz.func128 [(true,3)] ⟨⟨_,rfl,qw1⟩,trivial⟩ fun xs obs y h hp=>by unfold KONumber at h;split at h<;>cases h;exact tr (xbml _ hp)
theorem qyr(hm:MX):OKc Tryz.prog qa8 112 KONumbers:=
 rs0 (E:=EONumbers) (N:=40) (keep:=true) (qyl hm) hm Tryz.func112 (by kernel_rfl) fun xs obs y h hp=>by unfold KONumbers at h;split at h<;>cases h;exact tr (xbf2 _ hp)
theorem qwi:TK BOParse:=fun hm=>tabC (K:=KONumbers) (qyr hm) (qyl hm)
theorem xbob(hm:MX): ∀xs obs ys,xbby xs obs=true->QONums xs obs=some ys->xbu0 Tryz.prog qa8 127 xs obs ys:=by
 intro xs obs ys hp h;unfold QONums at h;split at h
 ·rename_i b;cases h;have hE: ∀(l:Nat) (g:FuncId),Sound Tryz.prog (EONums l).glob g (ctr (EONums l) g):=fun l g=>(qai (qwi hm 128) qbv);refine xbg1 (N:=40) EONums hE hm (fun _=>rfl) (fun _=>rfl) (fun _=>rfl) Tryz.func127 rfl xba4 (fun _=>rfl) (by decide) rfl fun l=> ?_;obtain⟨out,h1,h2⟩:=xbwh l b hp;exact⟨out,(xbfa l b).trans h1,h2⟩
 ·cases h
theorem xboj(hm:MX):qfr Tryz.prog EOParse:=by
 intro gf xs obs ys hp h;have h:(cond (Nat.beq gf 127) QONums (fun _ _=>none)) xs obs=some ys:=h
 cases hb:Nat.beq gf 127 with
 | false=>rw[hb] at h;cases h
 | true=>
  obtain rfl:=qag.1 hb;exact⟨xbob hm xs obs ys hp h,_,Tryz.func127,rfl,rfl⟩
theorem q7j(hm:MX):OKS 96 qv6 SOParse:=
 qbq (E:=EOParse) (N:=40) (keep:=false) hm (fun g=>(qai (qwi hm 60) (qai (qwi hm 112) xbc9))) Tryz.func96 rfl rfl q63 rfl (hsq:=xboj hm) (hS:=by
  intro xs obs out hp h;unfold SOParse at h;split at h
  ·refine⟨by simp[Tryz.f96], ?_⟩;rw[q9t];exact(xbrd _ hp).trans h
  ·cases h)
theorem xbgu:TK BR2Parse:=fun hm=>tabC (K:=ofS qv6 SOParse) (q7j hm) (qwi hm)
theorem xbnn:TK BR1Same:=tcT ER2Parse KR2Parse xbgu Tryz.func93 [(true,5)] ⟨⟨_,rfl,qw3⟩,trivial⟩ fun xs obs y h hp=>by unfold KR2Parse at h;split at h<;>cases h;exact tr (xbmp _ hp)
theorem xbno:TK BR4Less:=tcT ER1Same KR1Same xbnn Tryz.func24 [(true,4)] ⟨⟨_,rfl,qzb⟩,trivial⟩ fun xs obs y h hp=>by unfold KR1Same at h;split at h<;>cases h;exact tr (xbri _ _ hp)
theorem xbt3:TK BUWord:=tcT ER4Less KR4Less xbno Tryz.func91 [(true,2)] ⟨⟨_,rfl,qzc⟩,trivial⟩ fun xs obs y h hp=>by unfold KR4Less at h;split at h<;>cases h;exact tr (xbrj _ _ hp)
theorem xbn4:TK BUValid:=tc0 EUWord KUWord xbt3 Tryz.func129 fun xs obs y h hp=>by unfold KUWord at h;split at h<;>cases h;exact tr (xbxh _ hp)
theorem xbj0:TK BRSame:=tcT EUValid KUValid xbn4 Tryz.func115 [(true,10),(true,2)] ⟨⟨_,rfl,qw7⟩,⟨_,rfl,q0f⟩,trivial⟩ fun xs obs y h hp=>by unfold KUValid at h;split at h<;>cases h;exact tr (xbr2 _ hp)
theorem qth(hm:MX): ∀rk,OKS 23 (qmg rk) SRSame
 | 0=>qdo fun xs obs h=>by
  unfold qmg at h;split at h
  ·simp only[zab] at h;have:=qjl h.1;simp[isNf] at this
  ·cases h
 | rk+1=>qbq (E:=ERSame rk) (N:=40) (keep:=false) hm (fun g=>(qai (qth hm rk) (qai (xbj0 hm 24) qbv))) Tryz.func23 rfl rfl (xba6 rk) rfl (by
  intro xs obs out hp h;have hp:qmg (rk+1) xs obs=true:=hp;have hp0:=hp;unfold qmg at hp;split at hp
  ·rename_i a b;simp only[zab] at hp;obtain⟨_,ta,ba,ka,_,rfl,_⟩:=qov (qjl hp.1);obtain⟨_,hn⟩:=qna hp.2;obtain⟨_,tb,bb,kb,_,rfl,_⟩:=qov hn;refine⟨by simp[Tryz.f23], ?_⟩;rw[xbfc];exact(xbwr rk ta ba ka tb bb kb hp0).trans h
  ·cases hp)
theorem qyt(hm:MX):OKS 23 qq9 SRSame:=
 qcg (fun rk=>qth hm rk) fun xs obs h=>by
  unfold qq9 at h;split at h
  ·rename_i a b;simp only[zab] at h;obtain⟨n,hn⟩:=qna h.1;refine⟨n, ?_⟩;show(isNr n a&&isN b)=true;rw[q3p hn,h.2];rfl
  ·cases h
theorem xbs0:TK BDFits:=fun hm=>tabC (K:=ofS qq9 SRSame) (qyt hm) (xbj0 hm)
theorem xbtb:TK BRFits:=tc0 EDFits KDFits xbs0 Tryz.func98 fun xs obs y h hp=>by unfold KDFits at h;split at h<;>cases h;exact tr (xbq7 _ _ hp)
theorem xbcj:TK BR4Sorted:=tc0 ERFits KRFits xbtb Tryz.func78 fun xs obs y h hp=>by unfold KRFits at h;split at h<;>cases h;exact tr (xbwm _ _ hp)
theorem q7i:TK BBACompare:=tcT ER4Sorted KR4Sorted xbcj Tryz.func80 [(true,2)] ⟨⟨_,rfl,qt7⟩,trivial⟩ fun xs obs y h hp=>by unfold KR4Sorted at h;split at h<;>cases h;exact tr (xbf4 _ hp)
theorem xbch:TK BBCompare:=fun hm=>tabC (K:=ofS qhg SBACompare) (qwn hm) (q7i hm)
theorem xbs5:TK BOLess:=tc0 EBCompare KBCompare xbch Tryz.func63 fun xs obs y h hp=>by unfold KBCompare at h;split at h<;>cases h;exact tr (xbf0 _ _ hp)
theorem xbnl:TK BOSteps:=tc0 EOLess KOLess xbs5 Tryz.func118 fun xs obs y h hp=>by unfold KOLess at h;split at h<;>cases h;exact tr (xbwg _ _ hp)
theorem xbgr:TK BOSorted:=tcT EOSteps KOSteps xbnl Tryz.func117 [(true,2)] ⟨⟨_,rfl,qy9⟩,trivial⟩ fun xs obs y h hp=>by unfold KOSteps at h;split at h<;>cases h;exact tr (xbrg _ hp)
theorem xbnt:TK BSEqual:=tc0 EOSorted KOSorted xbgr Tryz.func101 fun xs obs y h hp=>by unfold KOSorted at h;split at h<;>cases h;exact tr (xbmm _ hp)
theorem xbzm:TK BEqF:=tcT ESEqual KSEqual xbnt Tryz.func71 [(true,4)] ⟨⟨_,rfl,qzh⟩,trivial⟩ fun xs obs y h hp=>by unfold KSEqual at h;split at h<;>cases h;exact tr (xbrp _ _ hp)
theorem q47(hm:MX)(rk:Nat)(hD:OKS 43 (qed rk) SDSame):OKS 42 (xbbz rk) SEqF:=
 qbq (E:=EEqF rk) (N:=40) (keep:=false) hm (fun g=>(qai (hD) qbv)) Tryz.func42 rfl rfl (xbmc rk) rfl (by
  intro xs obs out hp h;unfold SEqF at h;split at h
  ·refine⟨by simp[Tryz.f42], ?_⟩;rw[xbpm];exact(nEqF rk _ _ hp).trans h
  ·cases h)
theorem q7k(hm:MX)(rk:Nat)(hD:OKS 43 (qed rk) SDSame)(hE:OKS 42 (xbbz rk) SEqF):OKS 43 (qed (rk+1)) SDSame:=
 qbq (E:=EDSame rk) (N:=40) (keep:=false) hm (fun g=>(qai (hE) (qai (hD) (qai (xbzm hm 71) qbv)))) Tryz.func43 rfl rfl (xba2 rk) rfl (by
  intro xs obs out hq h;have hp:qed (rk+1) xs obs=true:=hq;have hp0:qed (rk+1) xs obs=true:=hq;clear hq;unfold qed at hp;split at hp
  ·rename_i a b;simp only[zab] at hp;obtain⟨_,ta,ba,ka,_,rfl,_⟩:=qov (qjl hp.1);obtain⟨_,hn⟩:=qna hp.2;obtain⟨_,tb,bb,kb,_,rfl,_⟩:=qov hn;refine⟨by simp[Tryz.f43], ?_⟩;rw[xbe7];exact(xbwd rk ta ba ka tb bb kb hp0).trans h
  ·cases hp)
theorem q46(hm:MX): ∀rk,OKS 43 (qed rk) SDSame
 | 0=>qdo fun xs obs h=>by
  unfold qed at h;split at h
  ·simp only[zab] at h;have:=qjl h.1;simp[isNf] at this
  ·cases h
 | rk+1=>q7k hm rk (q46 hm rk) (q47 hm rk (q46 hm rk))
theorem xbc3(hm:MX):OKS 43 qv5 SDSame:=
 qcg (fun rk=>q46 hm rk) fun xs obs h=>by
  unfold qv5 at h;split at h
  ·rename_i a b;simp only[zab] at h;obtain⟨n,hn⟩:=qna h.1;refine⟨n, ?_⟩;show(isNr n a&&isN b)=true;rw[q3p hn,h.2];rfl
  ·cases h
theorem xboi(hm:MX):OKS 42 xbgk SEqF:=
 qcg (fun rk=>q47 hm rk (q46 hm rk)) fun xs obs h=>by
  unfold xbgk at h;split at h
  ·rename_i a b;simp only[zab] at h;obtain⟨hl,n,hn⟩:=q3q h.1;refine⟨n, ?_⟩;show(xbi7 n a&&isNs b)=true;rw[xbak hl hn,h.2];rfl
  ·cases h
theorem xbs3:TK BDSame:=fun hm=>tabC (K:=ofS xbgk SEqF) (xboi hm) (xbzm hm)
theorem xbnr:TK BRSmall:=fun hm=>tabC (K:=ofS qv5 SDSame) (xbc3 hm) (xbs3 hm)
theorem qrm(hm:MX): ∀rk,OKS 14 (qgn rk) SRSmall
 | 0=>qdo fun xs obs h=>by
  unfold qgn at h;split at h
  ·simp only[zab] at h;have:=qva h.1;simp[isTf] at this
  ·cases h
 | rk+1=>qbq (E:=ERSmall rk) (N:=40) (keep:=false) hm (fun g=>(qai (qrm hm rk) qbv)) Tryz.func14 rfl rfl (q65 rk) rfl (by
  intro xs obs out hq h;have hp:qgn (rk+1) xs obs=true:=hq;have hp0:qgn (rk+1) xs obs=true:=hq;clear hq;unfold qgn at hp;split at hp
  ·rename_i a n
   try simp only[zab] at hp
   have ha:=qva hp.1;obtain⟨_,ta,ba,ka,_,rfl,_⟩:=qch ha;refine⟨by simp[Tryz.f14], ?_⟩;rw[q93];exact(xbrm rk ta ba ka n hp0).trans h
  ·cases hp)
theorem qti(hm:MX):OKS 14 qmh SRSmall:=
 qcg (fun rk=>qrm hm rk) fun xs obs h=>by
  unfold qmh at h;split at h
  ·rename_i a n;simp only[zab] at h;obtain⟨n',hn⟩:=qh8 h.1;refine⟨n', ?_⟩;show(isTr n' a&&qot n)=true;rw[xbi9 hn,h.2];rfl
  ·cases h
theorem qyk:TK BDSize:=fun hm=>tabC (K:=ofS qmh SRSmall) (qti hm) (xbnr hm)
theorem qtg(hm:MX): ∀rk,OKS 74 (qj5 rk) SDSize
 | 0=>qdo fun xs obs h=>by
  unfold qj5 at h;split at h
  ·simp only[zab] at h;have:=(qjm h.1).1;simp[isTf] at this
  ·cases h
 | rk+1=>qbq (E:=EDSize rk) (N:=40) (keep:=false) hm (fun g=>(qai (qtg hm rk) (qai (qyk hm 94) (qai (qyk hm 97) (qai (qyk hm 98) (qai (qyk hm 99) qbv)))))) Tryz.func74 rfl rfl (xba3 rk) rfl (by
  intro xs obs out hq h;have hp:qj5 (rk+1) xs obs=true:=hq;have hp0:qj5 (rk+1) xs obs=true:=hq;clear hq;unfold qj5 at hp;split at hp
  ·rename_i a n
   try simp only[zab] at hp
   have ha:=(qjm hp.1).1;obtain⟨_,ta,ba,ka,_,rfl,_⟩:=qch ha;refine⟨by simp[Tryz.f74], ?_⟩;rw[xbe8];exact(xbwf rk ta ba ka n hp0).trans h
  ·cases hp)
theorem qyq(hm:MX):OKS 74 qq8 SDSize:=
 qcg (fun rk=>qtg hm rk) fun xs obs h=>by
  unfold qq8 at h;split at h
  ·rename_i a n;simp only[zab] at h;obtain⟨n',hn,hb⟩:=qcc h.1;refine⟨n', ?_⟩;show(isSr n' a&&qkd n)=true;rw[q3s hn hb,h.2];rfl
  ·cases h
theorem xbs2:TK BDPut:=fun hm=>tabC (K:=ofS qq8 SDSize) (qyq hm) (qyk hm)
theorem xbg7(hm:MX):OKc Tryz.prog qa8 100 KDPut:=
 rs (E:=EDPut) (N:=40) (keep:=true) (xbs2 hm) hm Tryz.func100 (lsB (ids:=[(true,7)]) (by kernel_rfl) ⟨⟨_,rfl,q75⟩,trivial⟩) fun xs obs y h hp=>by unfold KDPut at h;split at h<;>cases h;exact tr (xbz3 _ _ hp)
theorem xbjz:TK BRHead:=fun hm=>tabC (K:=KDPut) (xbg7 hm) (xbs2 hm)
theorem xbc5(hm:MX):OKc Tryz.prog qa8 79 KRHead:=
 rs0 (E:=ERHead) (N:=40) (keep:=true) (xbjz hm) hm Tryz.func79 (by kernel_rfl) fun xs obs y h hp=>by unfold KRHead at h;split at h<;>cases h;exact tr (xbwn _ _ hp)
theorem xbnm:TK BR1Join:=fun hm=>tabC (K:=KRHead) (xbc5 hm) (xbjz hm)
theorem xbtg:TK BSGrow:=tcT ER1Join KR1Join xbnm Tryz.func81 [(true,3)] ⟨⟨_,rfl,qza⟩,trivial⟩ fun xs obs y h hp=>by unfold KR1Join at h;split at h<;>cases h;exact tr (xbrh _ hp)
theorem xbgy:TK BSConcat:=fun hm=>tabC (K:=ofS qv9 SSGrow) (xbc6 hm) (xbtg hm)
theorem qri:TK BDWrite:=tcT ESConcat KSConcat xbgy Tryz.func102 [(true,3),(true,11)] ⟨⟨_,rfl,qw6⟩,⟨_,rfl,qua⟩,trivial⟩ fun xs obs y h hp=>by unfold KSConcat at h;split at h<;>cases h;exact tr (xbmt _ hp)
theorem qrl(hm:MX): ∀rk,OKS 75 (qgm rk) SDWrite
 | 0=>qdo fun xs obs h=>by
  unfold qgm at h;split at h
  ·have:=(qvb h).1;simp[isTf] at this
  ·cases h
 | rk+1=>qbq (E:=EDWrite rk) (N:=40) (keep:=false) hm (fun g=>(qai (qrl hm rk) (qai (qri hm 94) (qai (qri hm 100) (qai (qri hm 101) (qai (qri hm 102) qbv)))))) Tryz.func75 rfl rfl (q62 rk) rfl (by
  intro xs obs out hq h;have hp:qgm (rk+1) xs obs=true:=hq;have hp0:qgm (rk+1) xs obs=true:=hq;clear hq;unfold qgm at hp;split at hp
  ·rename_i a
   try simp only[zab] at hp
   have ha:=(qvb hp).1;obtain⟨_,ta,ba,ka,_,rfl,_⟩:=qch ha;refine⟨by simp[Tryz.f75], ?_⟩;rw[q9n];exact(xbra rk ta ba ka hp0).trans h
  ·cases hp)
theorem qte(hm:MX):OKS 75 qmf SDWrite:=
 qcg (fun rk=>qrl hm rk) fun xs obs h=>by
  unfold qmf at h;split at h
  ·rename_i a;unfold isW at h;rw[qab] at h;obtain⟨n,hn⟩:=@of_decide_eq_true _ (Classical.propDecidable _) h;exact⟨n,xbja hn⟩
  ·cases h
theorem qk5:TK BRWrite:=fun hm=>tabC (K:=ofS qmf SDWrite) (qte hm) (qri hm)
theorem qrn(hm:MX): ∀rk,OKS 51 (qgo rk) SRWrite
 | 0=>qdo fun xs obs h=>by
  unfold qgo at h;split at h
  ·simp only[zab] at h;have:=(qjm h.1).1;simp[isTf] at this
  ·cases h
 | rk+1=>qbq (E:=ERWrite rk) (N:=40) (keep:=false) hm (fun g=>(qai (qrn hm rk) (qai (qk5 hm 76) (qai (qk5 hm 77) (qai (qk5 hm 78) (qai (qk5 hm 79) (qai (qk5 hm 80) (qai (qk5 hm 81) qbv)))))))) Tryz.func51 rfl rfl (q66 rk) rfl (by
  intro xs obs out hq h;have hp:qgo (rk+1) xs obs=true:=hq;have hp0:qgo (rk+1) xs obs=true:=hq;clear hq;unfold qgo at hp;split at hp
  ·rename_i a n
   try simp only[zab] at hp
   have ha:=(qjm hp.1).1;obtain⟨_,ta,ba,ka,_,rfl,_⟩:=qch ha;refine⟨by simp[Tryz.f51], ?_⟩;rw[q96];exact(xbrn rk ta ba ka n hp0).trans h
  ·cases hp)
theorem qtl(hm:MX):OKS 51 qmi SRWrite:=
 qcg (fun rk=>qrn hm rk) fun xs obs h=>by
  unfold qmi at h;split at h
  ·rename_i a n;simp only[zab] at h;obtain⟨n',hn,hb⟩:=qcc h.1;refine⟨n', ?_⟩;show(isSr n' a&&qkd n)=true;rw[q3s hn hb,h.2];rfl
  ·cases h
theorem xbng:TK BDBytes:=fun hm=>tabC (K:=ofS qmi SRWrite) (qtl hm) (qk5 hm)
theorem qtd(hm:MX):OKS 50 qhh SDBytes:=
 qbq (E:=EDBytes) (N:=40) (keep:=false) hm (fun g=>(qai (qyq hm) (qai (qte hm) qbv))) Tryz.func50 rfl rfl q61 rfl (by
  intro xs obs out hq h;have hp:qhh xs obs=true:=hq;have hp0:qhh xs obs=true:=hq;clear hq;unfold qhh at hp;split at hp
  ·rename_i a
   try simp only[zab] at hp
   obtain⟨_,ha,_⟩:=qcc hp;obtain⟨_,ta,ba,ka,_,rfl,_⟩:=qch ha;refine⟨by simp[Tryz.f50], ?_⟩;rw[q9k];exact(xbq6 ta ba ka hp0).trans h
  ·cases hp)
theorem xbsz:TK xbo1:=fun hm=>tabC (K:=ofS qhh SDBytes) (qtd hm) (xbng hm)
theorem xbc2(hm:MX):OKS 33 qnx xbk7:=
 qbq (E:=xbk2) (N:=40) (keep:=false) hm (fun g=>(qai (qtd hm) qbv)) Tryz.func33 rfl rfl xba1 rfl (by
  intro xs obs out hq h;have hp:qnx xs obs=true:=hq;have hp0:qnx xs obs=true:=hq;clear hq;unfold qnx at hp;split at hp
  ·rename_i a
   try simp only[zab] at hp
   obtain⟨_,ha,_⟩:=qcc hp;obtain⟨_,ta,ba,ka,_,rfl,_⟩:=qch ha;refine⟨by simp[Tryz.f33], ?_⟩;rw[xbe6];exact(xbwb ta ba ka hp0).trans h
  ·cases hp)
theorem xbnq:TK BRBytes:=fun hm=>tabC (K:=ofS qnx xbk7) (xbc2 hm) (xbsz hm)
theorem qtf(hm:MX):OKS 25 qhi SRBytes:=
 qbq (E:=ERBytes) (N:=40) (keep:=false) hm (fun g=>(qai (qtl hm) qbv)) Tryz.func25 rfl rfl q64 rfl (by
  intro xs obs out hq h;have hp:qhi xs obs=true:=hq;have hp0:qhi xs obs=true:=hq;clear hq;unfold qhi at hp;split at hp
  ·rename_i a
   try simp only[zab] at hp
   obtain⟨_,ha,_⟩:=qcc hp;obtain⟨_,ta,ba,ka,_,rfl,_⟩:=qch ha;refine⟨by simp[Tryz.f25], ?_⟩;rw[q9z];exact(xbrl ta ba ka hp0).trans h
  ·cases hp)
theorem xbta:TK xbo2:=fun hm=>tabC (K:=ofS qhi SRBytes) (qtf hm) (xbnq hm)
theorem xbc4(hm:MX):OKS 68 qny xbk8:=
 qbq (E:=xbk4) (N:=40) (keep:=false) hm (fun g=>(qai (qtf hm) qbv)) Tryz.func68 rfl rfl xba5 rfl (by
  intro xs obs out hq h;have hp:qny xs obs=true:=hq;have hp0:qny xs obs=true:=hq;clear hq;unfold qny at hp;split at hp
  ·rename_i a
   try simp only[zab] at hp
   obtain⟨_,ha,_⟩:=qcc hp;obtain⟨_,ta,ba,ka,_,rfl,_⟩:=qch ha;refine⟨by simp[Tryz.f68], ?_⟩;rw[xbfb];exact(xbwl ta ba ka hp0).trans h
  ·cases hp)
theorem xbn1:TK BTUSame:=fun hm=>tabC (K:=ofS qny xbk8) (xbc4 hm) (xbta hm)
theorem xbx7:TK BTSEq:=tcT ETUSame KTUSame xbn1 Tryz.func28 [(true,4)] ⟨⟨_,rfl,qz9⟩,trivial⟩ fun xs obs y h hp=>by unfold KTUSame at h;split at h<;>cases h;exact tr (xbrz _ _ hp)
theorem xbnv:TK BTOSame:=tcT ETSEq KTSEq xbx7 Tryz.func70 [(true,4)] ⟨⟨_,rfl,q8h⟩,trivial⟩ fun xs obs y h hp=>by unfold KTSEq at h;split at h<;>cases h;exact tr (xb0e _ _ hp)
theorem xbs6:TK BOPut:=tc0 ETOSame KTOSame xbnv Tryz.func41 fun xs obs y h hp=>by unfold KTOSame at h;split at h<;>cases h;exact tr (xbrt _ _ hp)
theorem xbg8(hm:MX):OKc Tryz.prog qa8 110 KOPut:=
 rs (E:=EOPut) (N:=40) (keep:=true) (xbs6 hm) hm Tryz.func110 (lsB (ids:=[(false,2)]) (by kernel_rfl) ⟨⟨_,rfl,q71⟩,trivial⟩) fun xs obs y h hp=>by
  unfold KOPut at h;split at h
  ·cases h;exact tr (xbre _ hp)
  ·cases h;rename_i m n l;exact tr (xbrf m n l hp)
  ·cases h
theorem qym:TK BR2Groups:=fun hm=>tabC (K:=KOPut) (xbg8 hm) (xbs6 hm)
theorem qys(hm:MX):OKc Tryz.prog qa8 83 KR2Groups:=
 rs (E:=ER2Groups) (N:=40) (keep:=true) (qym hm) hm Tryz.func83 (lsB (ids:=[(true,3)]) (by kernel_rfl) ⟨⟨_,rfl,qt5⟩,trivial⟩) fun xs obs y h hp=>by unfold KR2Groups at h;split at h<;>cases h;exact tr (xbf3 _ hp)
theorem xbnk:TK BOBytes:=fun hm=>tabC (K:=KR2Groups) (qys hm) (qym hm)
theorem xbgs:TK BR2Bytes:=tcT EOBytes KOBytes xbnk Tryz.func89 [(true,5)] ⟨⟨_,rfl,qy7⟩,trivial⟩ fun xs obs y h hp=>by unfold KOBytes at h;split at h<;>cases h;exact tr (xbrc _ hp)
theorem xbn7:TK BVPlain:=tcT ER2Bytes KR2Bytes xbgs Tryz.func53 [(true,5)] ⟨⟨_,rfl,qw2⟩,trivial⟩ fun xs obs y h hp=>by unfold KR2Bytes at h;split at h<;>cases h;exact tr (xbmn _ hp)
theorem xboa:TK q7x:=tc0 EVPlain KVPlain xbn7 Tryz.func92 fun xs obs y h hp=>by unfold KVPlain at h;split at h<;>cases h;exact tr (xbr5 _ _ _ _ hp)
theorem xbt4:TK xbk1:=tc0 xbo4 q73 xboa Tryz.func95 fun xs obs y h hp=>by unfold q73 at h;split at h<;>cases h;exact tr (xbr8 _ _ _ hp)
theorem xbn8:TK q7w:=tc0 xbvg xbk5 xbt4 Tryz.func73 fun xs obs y h hp=>by unfold xbk5 at h;split at h<;>cases h;exact tr (xbxi _ _ _ hp)
theorem xbt6:TK BVMade:=tc0 xbo3 q72 xbn8 Tryz.func69 fun xs obs y h hp=>by unfold q72 at h;split at h<;>cases h;exact tr (xbr6 _ _ _ hp)
theorem xb0s:TK BVId:=tc0 EVMade KVMade xbt6 Tryz.func88 fun xs obs y h hp=>by unfold KVMade at h;split at h<;>cases h;exact tr (xbxk _ _ hp)
theorem xbn9:TK BVRMade:=tc0 EVId KVId xb0s Tryz.func64 fun xs obs y h hp=>by unfold KVId at h;split at h<;>cases h;exact tr (nVId _ hp)
theorem xbyg:TK BVRId:=tc0 EVRMade KVRMade xbn9 Tryz.func52 fun xs obs y h hp=>by unfold KVRMade at h;split at h<;>cases h;exact tr (xbr7 _ _ hp)
theorem xbn6:TK BVClone:=tc0 EVRId KVRId xbyg Tryz.func27 fun xs obs y h hp=>by unfold KVRId at h;split at h<;>cases h;exact tr (xb0n _ hp)
theorem xbyh:TK BVSeq:=tc0 EVClone KVClone xbn6 Tryz.func90 fun xs obs y h hp=>by unfold KVClone at h;split at h<;>cases h;exact tr (xbr4 _ hp)
theorem xbt5:TK BVKids:=tc0 EVSeq KVSeq xbyh Tryz.func65 fun xs obs y h hp=>by unfold KVSeq at h;split at h<;>cases h;exact tr (xb0o _ hp)
theorem xbt7:TK BVRSeq:=tc0 EVKids KVKids xbt5 Tryz.func72 fun xs obs y h hp=>by unfold KVKids at h;split at h<;>cases h;exact tr (xbxj _ _ _ _ hp)
theorem xbt8:TK BVRSet:=tc0 EVRSeq KVRSeq xbt7 Tryz.func38 fun xs obs y h hp=>by unfold KVRSeq at h;split at h<;>cases h;exact tr (xbxl _ hp)
theorem xbtk:TK BTCmp4:=tcT EVRSet KVRSet xbt8 Tryz.func67 [(true,10),(true,4)] ⟨⟨_,rfl,q0i⟩,⟨_,rfl,q6a⟩,trivial⟩ fun xs obs y h hp=>by unfold KVRSet at h;split at h<;>cases h;exact tr (xbxm _ hp)
theorem xbnz:TK BTSwap4:=tc0 ETCmp4 KTCmp4 xbtk Tryz.func85 fun xs obs y h hp=>by unfold KTCmp4 at h;split at h<;>cases h;rename_i tp bp kp wp tq bq kq wq;exact tr (xbww tp bp kp wp tq bq kq wq hp)
theorem xbts:TK BTRot4:=tcT ETSwap4 KTSwap4 xbnz Tryz.func138 [(true,1)] ⟨⟨_,rfl,qzx⟩,trivial⟩ fun xs obs y h hp=>by unfold KTSwap4 at h;split at h<;>cases h;exact tr (xbrx _ _ _ _ _ hp)
theorem xbcm:TK BTSym4:=tcT ETRot4 KTRot4 xbts Tryz.func135 [(true,2)] ⟨⟨_,rfl,q5x⟩,trivial⟩ fun xs obs y h hp=>by unfold KTRot4 at h;split at h<;>cases h;exact tr (xbw4 _ _ _ _ _ hp)
theorem qtk(hm:MX): ∀rk,OKS 125 (qv8 rk) STSym4
 | 0=>qdo fun xs obs h=>by
  unfold qv8 at h;split at h
  ·simp only[zab,decide_eq_true_eq] at h;omega
  ·cases h
 | rk+1=>qbq (E:=ETSym4 rk) (N:=40) (keep:=false) hm (fun g=>(qai (xbcm hm 85) (qai (qtk hm rk) (qai (xbcm hm 135) qbv)))) Tryz.func125 rfl rfl (xba8 rk) rfl (by
  intro xs obs out hp h;unfold STSym4 at h;split at h
  ·rename_i m a p b l;refine⟨by simp[Tryz.f125], ?_⟩;rw[xbfe];have hp:(rows4 m l&&(qdq m a p b&&(half4 l a p b&&decide ((b - a).toNat<rk+1))))=true:=hp;simp only[zab,decide_eq_true_eq] at hp;exact(xbw9 rk m a p b l (by rw[hp.1,hp.2.1,hp.2.2.1];rfl) hp.2.2.2).trans h
  ·cases h)
theorem xbc8(hm:MX):OKS 125 qwb STSym4:=
 qcg (fun rk=>qtk hm rk) fun xs obs h=>by
  unfold qwb at h;split at h
  ·rename_i m a p b l;simp only[zab] at h;refine⟨(b - a).toNat+1, ?_⟩;show(rows4 m l&&(qdq m a p b&&(half4 l a p b&&decide ((b - a).toNat<(b - a).toNat+1))))=true;rw[h.1,h.2.1,h.2.2,decide_eq_true (Nat.lt_succ_self _)];rfl
  ·cases h
theorem xbtm:TK BTIns4:=fun hm=>tabC (K:=ofS qwb STSym4) (xbc8 hm) (xbcm hm)
theorem xbtv:TK BTSta4:=tcT ETIns4 KTIns4 xbtm Tryz.func124 [(true,4),(true,1)] ⟨⟨_,rfl,q5t⟩,⟨_,rfl,q5s⟩,trivial⟩ fun xs obs y h hp=>by unfold KTIns4 at h;split at h<;>cases h;exact tr (xbwy _ _ _ _ hp)
theorem xbnx:TK BTSort4:=tcT ETSta4 KTSta4 xbtv Tryz.func107 [(true,2),(true,9),(true,7)] ⟨⟨_,rfl,q51⟩,⟨_,rfl,q53⟩,⟨_,rfl,q52⟩,trivial⟩ fun xs obs y h hp=>by unfold KTSta4 at h;split at h<;>cases h;exact tr (xbw7 _ _ _ hp)
theorem xbtj:TK BTCmp3:=tc0 ETSort4 KTSort4 xbnx Tryz.func84 fun xs obs y h hp=>by unfold KTSort4 at h;split at h<;>cases h;exact tr (xbrv _ _ hp)
theorem xbny:TK BTSwap3:=tc0 ETCmp3 KTCmp3 xbtj Tryz.func62 fun xs obs y h hp=>by unfold KTCmp3 at h;split at h<;>cases h;rename_i op kp wp oq kq wq;exact tr (xbwv op kp wp oq kq wq hp)
theorem xbtr:TK BTRot3:=tcT ETSwap3 KTSwap3 xbny Tryz.func136 [(true,1)] ⟨⟨_,rfl,qzw⟩,trivial⟩ fun xs obs y h hp=>by unfold KTSwap3 at h;split at h<;>cases h;exact tr (xbrw _ _ _ _ _ hp)
theorem xbcl:TK BTSym3:=tcT ETRot3 KTRot3 xbtr Tryz.func126 [(true,2)] ⟨⟨_,rfl,q5w⟩,trivial⟩ fun xs obs y h hp=>by unfold KTRot3 at h;split at h<;>cases h;exact tr (xbw3 _ _ _ _ _ hp)
theorem qtj(hm:MX): ∀rk,OKS 109 (qv7 rk) STSym3
 | 0=>qdo fun xs obs h=>by
  unfold qv7 at h;split at h
  ·simp only[zab,decide_eq_true_eq] at h;omega
  ·cases h
 | rk+1=>qbq (E:=ETSym3 rk) (N:=40) (keep:=false) hm (fun g=>(qai (xbcl hm 62) (qai (qtj hm rk) (qai (xbcl hm 126) qbv)))) Tryz.func109 rfl rfl (xba7 rk) rfl (by
  intro xs obs out hp h;unfold STSym3 at h;split at h
  ·rename_i m a p b l;refine⟨by simp[Tryz.f109], ?_⟩;rw[xbfd];have hp:(rows3 m l&&(qdq m a p b&&(half3 l a p b&&decide ((b - a).toNat<rk+1))))=true:=hp;simp only[zab,decide_eq_true_eq] at hp;exact(xbw8 rk m a p b l (by rw[hp.1,hp.2.1,hp.2.2.1];rfl) hp.2.2.2).trans h
  ·cases h)
theorem xbc7(hm:MX):OKS 109 qwa STSym3:=
 qcg (fun rk=>qtj hm rk) fun xs obs h=>by
  unfold qwa at h;split at h
  ·rename_i m a p b l;simp only[zab] at h;refine⟨(b - a).toNat+1, ?_⟩;show(rows3 m l&&(qdq m a p b&&(half3 l a p b&&decide ((b - a).toNat<(b - a).toNat+1))))=true;rw[h.1,h.2.1,h.2.2,decide_eq_true (Nat.lt_succ_self _)];rfl
  ·cases h
theorem xbtl:TK BTIns3:=fun hm=>tabC (K:=ofS qwa STSym3) (xbc7 hm) (xbcl hm)
theorem xbtu:TK BTSta3:=tcT ETIns3 KTIns3 xbtl Tryz.func108 [(true,4),(true,1)] ⟨⟨_,rfl,q5r⟩,⟨_,rfl,q5q⟩,trivial⟩ fun xs obs y h hp=>by unfold KTIns3 at h;split at h<;>cases h;exact tr (xbwx _ _ _ _ hp)
theorem xbnw:TK BTSort3:=tcT ETSta3 KTSta3 xbtu Tryz.func86 [(true,2),(true,9),(true,7)] ⟨⟨_,rfl,q5y⟩,⟨_,rfl,q50⟩,⟨_,rfl,q5z⟩,trivial⟩ fun xs obs y h hp=>by unfold KTSta3 at h;split at h<;>cases h;exact tr (xbw6 _ _ _ hp)
theorem xbnu:TK BTClone:=tc0 ETSort3 KTSort3 xbnw Tryz.func61 fun xs obs y h hp=>by unfold KTSort3 at h;split at h<;>cases h;exact tr (xbru _ _ hp)
theorem xbyc:TK BTTw1:=tc0 ETClone KTClone xbnu Tryz.func58 fun xs obs y h hp=>by unfold KTClone at h;split at h<;>cases h;exact tr (xbrq _ hp)
theorem xbx4:TK BTOn1:=tc0 ETTw1 KTTw1 xbyc Tryz.func55 fun xs obs y h hp=>by unfold KTTw1 at h;split at h<;>cases h;rename_i o k p q;exact tr (xb0j o k p q hp)
theorem xbx1:TK BTIdx:=tc0 ETOn1 KTOn1 xbx4 Tryz.func49 fun xs obs y h hp=>by unfold KTOn1 at h;split at h<;>cases h;rename_i o k p;exact tr (xb0b o k p hp)
theorem xbxy:TK BTCon:=tcT ETIdx KTIdx xbx1 Tryz.func48 [(true,2)] ⟨⟨_,rfl,q8b⟩,trivial⟩ fun xs obs y h hp=>by
  unfold KTIdx at h;split at h
  ·cases h;exact tr (xbrr _ _ _ hp)
  ·cases h;exact tr (xbrs _ _ hp)
  ·cases h
theorem xbn0:TK BTTwice:=tc0 ETCon KTCon xbxy Tryz.func54 fun xs obs y h hp=>by unfold KTCon at h;split at h<;>cases h;exact tr (xbz6 _ _ _ hp)
theorem xbtp:TK BTOrd1:=tcT ETTwice KTTwice xbn0 Tryz.func29 [(true,2)] ⟨⟨_,rfl,qz8⟩,trivial⟩ fun xs obs y h hp=>by unfold KTTwice at h;split at h<;>cases h;exact tr (xbry _ hp)
theorem xbx3:TK xbvd:=tc0 ETOrd1 KTOrd1 xbtp Tryz.func57 fun xs obs y h hp=>by unfold KTOrd1 at h;split at h<;>cases h;exact tr (xbw1 _ _ _ hp)
theorem xbyb:TK xbvf:=tcT xbyp xbvj xbx3 Tryz.func56 [(true,3)] ⟨⟨_,rfl,q8f⟩,trivial⟩ fun xs obs y h hp=>by unfold xbvj at h;split at h<;>cases h;exact tr (xb0a _ hp)
theorem xbya:TK xbve:=tcT xbyr xbvl xbyb Tryz.func59 [(true,3)] ⟨⟨_,rfl,q8l⟩,trivial⟩ fun xs obs y h hp=>by unfold xbvl at h;split at h<;>cases h;exact tr (xb0i _ hp)
theorem xbx6:TK BTOrd:=tcT xbyq xbvk xbya Tryz.func35 [(true,3)] ⟨⟨_,rfl,q8j⟩,trivial⟩ fun xs obs y h hp=>by unfold xbvk at h;split at h<;>cases h;exact tr (xb0h _ hp)
theorem xb0q:TK BTNd:=tc0 ETOrd KTOrd xbx6 Tryz.func30 fun xs obs y h hp=>by unfold KTOrd at h;split at h<;>cases h;exact tr (xb0d _ _ hp)
theorem xbx2:TK xbvc:=tc0 ETNd KTNd xb0q Tryz.func32 fun xs obs y h hp=>by unfold KTNd at h;split at h<;>cases h;exact tr (nTNd _ _ hp)
theorem xbxx:TK BTBox:=tcT xbyo xbvi xbx2 Tryz.func31 [(true,3)] ⟨⟨_,rfl,q8d⟩,trivial⟩ fun xs obs y h hp=>by unfold xbvi at h;split at h<;>cases h;exact tr (xbz9 _ hp)
theorem xbtn:TK BTMake:=tcT ETBox KTBox xbxx Tryz.func34 [(true,3)] ⟨⟨_,rfl,q77⟩,trivial⟩ fun xs obs y h hp=>by unfold KTBox at h;split at h<;>cases h;exact tr (xbz5 _ _ hp)
theorem xbx8:TK BTSa1:=tcT ETMake KTMake xbtn Tryz.func8 [(true,5)] ⟨⟨_,rfl,q5u⟩,trivial⟩ fun xs obs y h hp=>by unfold KTMake at h;split at h<;>cases h;exact tr (xbwz _ hp)
theorem xbxz:TK xbvb:=tc0 ETSa1 KTSa1 xbx8 Tryz.func40 fun xs obs y h hp=>by unfold KTSa1 at h;split at h<;>cases h;exact tr (xb0f _ _ _ _ hp)
theorem xbtt:TK BTSame:=tcT xbyn xbvh xbxz Tryz.func39 [(true,4)] ⟨⟨_,rfl,q79⟩,trivial⟩ fun xs obs y h hp=>by unfold xbvh at h;split at h<;>cases h;exact tr (xbz7 _ _ hp)
theorem xbx0:TK BTFit:=tc0 ETSame KTSame xbtt Tryz.func13 fun xs obs y h hp=>by unfold KTSame at h;split at h<;>cases h;exact tr (xbw5 _ _ hp)
theorem xbx9:TK BTTag:=tc0 ETFit KTFit xbx0 Tryz.func10 fun xs obs y h hp=>by unfold KTFit at h;split at h<;>cases h;exact tr (xbz8 _ hp)
theorem xbto:TK BTNode:=tc0 ETTag KTTag xbx9 Tryz.func44 fun xs obs y h hp=>by unfold KTTag at h;split at h<;>cases h;exact tr (xb0g _ hp)
theorem xbti:TK BTAttr:=tc0 ETNode KTNode xbto Tryz.func15 fun xs obs y h hp=>by unfold KTNode at h;split at h<;>cases h;exact tr (xbw0 _ _ hp)
theorem xbtq:TK BTRead:=tc0 ETAttr KTAttr xbti Tryz.func46 fun xs obs y h hp=>by unfold KTAttr at h;split at h<;>cases h;exact tr (xbwu _ _ _ hp)
theorem xbx5:TK BTOne:=tcT ETRead KTRead xbtq Tryz.func17 [(true,5)] ⟨⟨_,rfl,q5v⟩,trivial⟩ fun xs obs y h hp=>by unfold KTRead at h;split at h<;>cases h;exact tr (xbw2 _ _ _ _ hp)
theorem xbtw:TK BTText:=tc0 ETOne KTOne xbx5 Tryz.func19 fun xs obs y h hp=>by unfold KTOne at h;split at h<;>cases h;exact tr (xb0c _ _ hp)
theorem xb0r:TK BUNd:=tc0 ETText KTText xbtw Tryz.func21 fun xs obs y h hp=>by unfold KTText at h;split at h<;>cases h;exact tr (xbxa _ hp)
theorem xbn5:TK BUWhole:=tc0 EUNd KUNd xb0r Tryz.func66 fun xs obs y h hp=>by unfold KUNd at h;split at h<;>cases h;exact tr (nUNd _ _ hp)
theorem xbn2:TK BUAttrs:=tcT EUWhole KUWhole xbn5 Tryz.func36 [(true,8),(true,5)] ⟨⟨_,rfl,q0h⟩,⟨_,rfl,q0g⟩,trivial⟩ fun xs obs y h hp=>by unfold KUWhole at h;split at h<;>cases h;exact tr (xbr3 _ hp)
theorem xbty:TK BUMake:=tcT EUAttrs KUAttrs xbn2 Tryz.func37 [(true,3)] ⟨⟨_,rfl,q0a⟩,trivial⟩ fun xs obs y h hp=>by unfold KUAttrs at h;split at h<;>cases h;rename_i t b k;exact tr (xbr0 t b k hp)
theorem xbt1:TK BUSame:=tc0 EUMake KUMake xbty Tryz.func9 fun xs obs y h hp=>by unfold KUMake at h;split at h<;>cases h;exact tr (xbxc _ hp)
theorem xbyd:TK BUFit:=tcT EUSame KUSame xbt1 Tryz.func12 [(true,4)] ⟨⟨_,rfl,q59⟩,trivial⟩ fun xs obs y h hp=>by unfold KUSame at h;split at h<;>cases h;exact tr (xbxf _ _ hp)
theorem xbyf:TK BUTag:=tc0 EUFit KUFit xbyd Tryz.func11 fun xs obs y h hp=>by unfold KUFit at h;split at h<;>cases h;exact tr (xb0k _ hp)
theorem xbtz:TK BUNode:=tc0 EUTag KUTag xbyf Tryz.func45 fun xs obs y h hp=>by unfold KUTag at h;split at h<;>cases h;exact tr (xb0m _ hp)
theorem xbtx:TK BUForm:=tc0 EUNode KUNode xbtz Tryz.func16 fun xs obs y h hp=>by unfold KUNode at h;split at h<;>cases h;exact tr (xbxd _ _ hp)
theorem xbt0:TK BURead:=tcT EUForm KUForm xbtx Tryz.func47 [(true,2)] ⟨⟨_,rfl,q58⟩,trivial⟩ fun xs obs y h hp=>by unfold KUForm at h;split at h<;>cases h;exact tr (xbxb _ _ _ hp)
theorem xbye:TK BUOne:=tc0 EURead KURead xbt0 Tryz.func18 fun xs obs y h hp=>by unfold KURead at h;split at h<;>cases h;exact tr (xbxe _ _ _ _ hp)
theorem xbt2:TK BUText:=tcT EUOne KUOne xbye Tryz.func20 [(true,4)] ⟨⟨_,rfl,q8n⟩,trivial⟩ fun xs obs y h hp=>by unfold KUOne at h;split at h<;>cases h;exact tr (xb0l _ _ hp)
theorem xbn3:TK BUSmall:=tc0 EUText KUText xbt2 Tryz.func22 fun xs obs y h hp=>by unfold KUText at h;split at h<;>cases h;exact tr (xbxg _ hp)
theorem xbg0:TK BWASmall:=tcT EUSmall KUSmall xbn3 Tryz.func26 [(true,7),(true,3)] ⟨⟨_,rfl,q0e⟩,⟨_,rfl,q0d⟩,trivial⟩ fun xs obs y h hp=>by unfold KUSmall at h;split at h<;>cases h;exact tr (xbr1 _ _ hp)
theorem xbgz:TK BWAAwake:=tc0 EWASmall KWASmall xbg0 Tryz.func6 fun xs obs y h hp=>by unfold KWASmall at h;split at h<;>cases h;exact tr (xbmw _ hp)
theorem qdf:TK BWAReads:=tc0 EWAAwake KWAAwake xbgz Tryz.func7 fun xs obs y h hp=>by unfold KWAAwake at h;split at h<;>cases h;exact tr (xbmu hp)
theorem q1y(hm:MX):OKS 4 qra SWAReads:=
 qbq (E:=EWAReads) (N:=40) (keep:=false) hm (fun g=>(qai (qdf hm 6) (qai (qdf hm 7) (qai (qdf hm 12) (qai (qti hm) (qai (qdf hm 15) (qai (qdf hm 16) (qai (qdf hm 17) (qai (qdf hm 18) (qai (qdf hm 19) (qai (qdf hm 20) (qai (qdf hm 21) (qai (qdf hm 22) (qai (qyt hm) (qai (qdf hm 24) qbv))))))))))))))) Tryz.func4 rfl rfl q1b rfl (by
  intro xs obs out hp h;unfold SWAReads at h;split at h
  ·refine⟨by simp[Tryz.f4], ?_⟩;rw[q6r];exact(xbmv _ _ _ _ _ _ hp).trans h
  ·cases h)
end Go.Proofs.YtoiikagnjcjccaaGreatDoorA
