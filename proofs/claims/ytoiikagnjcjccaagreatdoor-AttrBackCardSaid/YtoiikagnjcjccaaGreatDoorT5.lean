/-
 The library's comparison of bytes: its contract holds. Conditions: none.
-/
import Derived.Test.YtoiikagnjcjccaaGreatDoorT4
import Derived.Lib.BytesEntry
import Derived.Test.YtoiikagnjcjccaaGreatDoorK3
import Derived.Shelf.Spec.SlicesGrow
set_option linter.unusedVariables false
set_option linter.unusedSimpArgs false
set_option maxRecDepth 100000
namespace Go.Proofs.YtoiikagnjcjccaaGreatDoorA
theorem q86{P:Program}{w:World}{Im:Nat->Prop}{l:List Int}{v:Value}(h:CRep w Im (.sli .u8 l) v):(Extern.Bytes.bytesOf v).run P w=.ok ⟨(Lib.bytesOf l).toArray⟩ w:=by
 cases h with
 | sli _ _ a len cap hl hc hcell=>
  cases a with
  | none=>
   have:l=[]:=by
    cases l with
    | nil=>rfl
    | cons x r=>obtain⟨ad,e,_⟩:=hcell 0 x rfl;cases e
   subst this;rfl
  | some ad=>
   subst hl;have:=Lib.run_loadBytesX (P:=P) w l ad .empty (fun j x hj=>by obtain⟨ad',e,_,hc⟩:=hcell j x hj;cases e;exact hc);refine this.trans ?_;congr 1;apply ByteArray.ext;show(#[]:Array UInt8)++(Lib.bytesOf l).toArray=(Lib.bytesOf l).toArray;simp
theorem q7j: ∀(a b:List Int),(∀x∈a,0<=x/\x<=255)->(∀x∈b,0<=x/\x<=255)->Lib.compareBytes (Lib.bytesOf a) (Lib.bytesOf b)=qav a b
 | [],[],_,_=>rfl
 | [],_::_,_,_=>rfl
 | _::_,[],_,_=>rfl
 | x::a,y::b,ha,hb=>by
  have ih:=q7j a b (fun z hz=>ha z (zaz _ hz)) (fun z hz=>hb z (zaz _ hz));have hx:=ha x (zbl ..);have hy:=hb y (zbl ..);have e1:(UInt8.ofNat x.toNat<UInt8.ofNat y.toNat)↔x<y:=by rw[UInt8.lt_iff_toNat_lt,zdd,zdd];omega
  have e2:(UInt8.ofNat y.toNat<UInt8.ofNat x.toNat)↔y<x:=by rw[UInt8.lt_iff_toNat_lt,zdd,zdd];omega
  show(if UInt8.ofNat x.toNat<UInt8.ofNat y.toNat then(-1:Int) else if UInt8.ofNat y.toNat<UInt8.ofNat x.toNat then 1 else Lib.compareBytes (Lib.bytesOf a) (Lib.bytesOf b))=(if x<y then -1 else if y<x then 1 else qav a b);simp only[e1,e2,ih]
theorem xbp0{P:Program}{w:World}{Im:Nat->Prop}{a b:List Int}{va vb:Value}(ha:CRep w Im (.sli .u8 a) va)(hb:CRep w Im (.sli .u8 b) vb)(h1: ∀x∈a,0<=x/\x<=255)(h2: ∀x∈b,0<=x/\x<=255):
  (Extern.BytealgCompare.compare #[va,vb]).run P w=.ok (.int .i64 (qav a b)) w:=by
 change Sem.run P (do pure (goInt (Extern.BytealgCompare.cmp (<- Extern.Bytes.bytesOf va) (<- Extern.Bytes.bytesOf vb)))) w=_;simp only[Sem.run_bind,Sem.run_pure,q86 ha,q86 hb,Result.andThen];rw[Lib.cmp_eq];show Result.ok (Value.int .i64 (Lib.compareBytes (Lib.bytesOf a) (Lib.bytesOf b))) w=_;rw[q7j a b h1 h2]
theorem qvj(hm:Tryz.prog.follows .mixedOrders=true):Sound Tryz.prog qa9 87 (fun xs obs=>cond (qg7 xs obs) (SBACompare xs obs).eval none):=by
 intro xs obs out w Im ρ bl vs hs hpre;obtain⟨h1,h2⟩:=qaa hs;unfold qg7 at h1;split at h1
 ·rename_i a b;simp only[zab] at h1;have h2:some (Out.ret [.cl (.int .i64 (qbh a b))] [])=some out:=h2;cases h2;have hl:vs.length=2:=hpre.reps.1
  match vs,hl,hpre with
  | [va,vb],_,hpre=>
   have ra:CRep w Im (.sli .u8 a) va:=by have:=hpre.reps.2 0 _ _ rfl rfl;cases this;assumption
   have rb:CRep w Im (.sli .u8 b) vb:=by have:=hpre.reps.2 1 _ _ rfl rfl;cases this;assumption
   refine .inr ⟨.int .i64 (qbh a b),w, ?_,[.int .i64 (qbh a b)],Im,ρ,rfl,⟨Fr.refl w bl,hpre.gam,fun j o o' hj=>by cases hj⟩,rfl,fun j c v hj hv=> ?_⟩
   ·rw[run_callFunc_extern (e:=Extern.BytealgCompare.compare) Tryz.func87 rfl rfl rfl (by kernel_rfl)];show Result.andThen ((Extern.BytealgCompare.compare #[va,vb]).run Tryz.prog w) _=_;rw[xbp0 ra rb (qax h1.1).2 (qax h1.2).2];unfold qbh;rw[qab];rfl
   ·match j,hj,hv with
    | 0,hj,hv=>cases hj;cases hv;exact .cl _ _ (.int ..)
    | j+1,hj,hv=>cases hj
 ·cases h1
def qxa:Go.Shelf.Ren:=⟨fun _=>119,fun t=>cond (Nat.beq t 25) 5 (cond (Nat.beq t 22) 31 t),fun g=>g⟩
theorem q81(hm:Tryz.prog.follows .mixedOrders=true):Lays8.n4 Tryz.prog qxa where
 mixed:=hm
 f4:=⟨Tryz.f119.name,by decide,by kernel_rfl⟩
 t0:=Tryz.underlying0
 a0:=fun w=>by kernel_rfl
 z0:=fun w=>by kernel_rfl
 v0:=fun w=>by kernel_rfl
 t3:=Tryz.underlying3
 a3:=fun w=>by kernel_rfl
 z3:=fun w=>by kernel_rfl
 v3:=fun w=>by kernel_rfl
 t4:=Tryz.underlying4
 a4:=fun w=>by kernel_rfl
 z4:=fun w=>by kernel_rfl
 v4:=fun w=>by kernel_rfl
 t9:=Tryz.underlying9
 a9:=fun w=>by kernel_rfl
 z9:=fun w=>by kernel_rfl
 v9:=fun w=>by kernel_rfl
 t20:=Tryz.underlying20
 a20:=fun w=>by kernel_rfl
 z20:=fun w=>by kernel_rfl
 v20:=fun w=>by kernel_rfl
 t22:=Tryz.underlying31
 a22:=fun w=>by kernel_rfl
 z22:=fun w=>by kernel_rfl
 v22:=fun w=>by kernel_rfl
theorem info5:(Tryz.prog.info? 5).map (fun i=>(i.zero,i.size,i.bytes))=some (some (.int .u8 0),1,1):=by kernel_rfl
theorem q8k{bl:Nat->Prop}{w w':World}{Im:Nat->Prop}{ρ ρ':Nat->Loc}{l:Loc}(h:Gam w.heap.size bl Im w Im ρ [])(hsz:w.heap.size<=w'.heap.size)(hρ:ρ' 0=l)(ho:ORep w' Im ρ' (shOf [(0,⟨.ints .u8 [],false⟩)]) (.ints .u8 []) l)(hl: ∀b x y,l=some (b,x,y)->b<w'.heap.size/\¬Im b/\w.heap.size<=b):
  Gam w.heap.size bl Im w' Im ρ' [(0,⟨.ints .u8 [],false⟩)]:=by
 have one: ∀(p:Nat) (o:Obj),qai ([(0,⟨.ints .u8 [],false⟩)]:Heap) p=some o->p=0/\o=⟨.ints .u8 [],false⟩:=fun p o hp=>by
  simp only[qai] at hp
  cases hb:Nat.beq 0 p with
  | true=>rw[hb] at hp;cases hp;exact⟨(qag.1 hb).symm,rfl⟩
  | false=>rw[hb] at hp;cases hp
 refine⟨fun b hb=>zbe (h.im b hb) hsz,h.i0,fun p o hp=> ?_,fun p q o o' b x y x' y' hp hq _ _ hne=> ?_,fun p o b x y hp hr=> ?_,h.imo⟩
 ·obtain⟨rfl,rfl⟩:=one p o hp;rw[hρ];exact ho
 ·exact absurd ((one p o hp).1.trans (one q o' hq).1.symm) hne
 ·obtain⟨rfl,rfl⟩:=one p o hp;rw[hρ] at hr;obtain⟨h1,h2,h3⟩:=hl b x y hr;exact⟨h1,fun e=>absurd e zb7,fun _=>⟨h2,.inr h3⟩⟩
theorem xba5(hm:Tryz.prog.follows .mixedOrders=true):Sound Tryz.prog qa9 119 (fun xs obs=>cond (qu4 xs obs) (SSGrow xs obs).eval none):=by
 intro xs obs out w Im ρ bl vs hs hpre;obtain⟨h1,h2⟩:=qaa hs;unfold qu4 at h1;split at h1
 ·rename_i n;have h2:some (Out.ret [.ref 0 0 0 true 1] [some ⟨.ints .u8 qbn,false⟩])=some out:=h2;cases h2;have hn:0<=n/\n<=100000000:=by unfold xbdc at h1;rw[qab] at h1;exact of_decide_eq_true h1
  obtain⟨m,rfl⟩: ∃m:Nat,n=m:=⟨n.toNat,by omega⟩;have hl:vs.length=2:=hpre.reps.1
  match vs,hl,hpre with
  | [va,vb],_,hpre=>
   have ra:=hpre.reps.2 0 _ _ rfl rfl;have rb:=hpre.reps.2 1 _ _ rfl rfl;cases ra;obtain rfl:vb=.int .i64 m:=by
    cases rb with
    | cl _ _ h=>cases h;rfl
   refine .inl ⟨?_, ?_⟩
   ·have hn': ¬Tryz.f119.name= "runtime.NumGoroutine" :=of_decide_eq_true (by kernel_rfl);obtain⟨c,hc⟩: ∃c,Tryz.f119.body=some c:=⟨_,rfl⟩;simp[callFunc,Tryz.func119,hn',hc]
   ·have e:qbn=[]:=qab _;rw[e];have hg:Gam w.heap.size bl Im w Im ρ []:=hpre.gam;by_cases hz:m=0
    ·subst hz;refine(Any8.slices_Grow_room (q81 hm) none 0 0 0 w (zas _) (by omega) (by omega) (zas _)).mono fun e w' ⟨he,hw⟩=> ?_;subst he;subst hw;refine⟨[.slice none 0 0],Im,fun _=>none,rfl,⟨Fr.refl _ bl,q8k hg (zas _) rfl ⟨rfl,rfl,trivial⟩ (fun b x y h=>by cases h),fun j o o' hj=>by cases hj⟩,rfl,fun j c v hj hv=> ?_⟩
     match j,hj,hv with
     | 0,hj,hv=>cases hj;cases hv;exact .refV 0 ⟨0,1,false⟩ true 1 rfl rfl rfl rfl
     | j+1,hj,hv=>cases hj
    ·obtain⟨i0,hi0,hi⟩:=zap.1 info5;simp only[za8] at hi;obtain⟨hi1,hi2,hi3⟩:=hi;refine(Any8.slices_Grow_grow (q81 hm) i0 (.int .u8 0) hi0 hi1 (by omega) none 0 0 m [] w (zas _) (by omega) (by rw[hi3];omega) (by omega) (by simp) (fun _=>rfl) (fun a h=>by cases h)).mono fun e w' ⟨he,hw⟩=> ?_;have hG:0+m<=grownCap w (0+m) 0 (qxa.t 25):=grownCap_ge w _ _ _;generalize grownCap w (0+m) 0 (qxa.t 25)=G at*;subst he;generalize hcs:([]:List Value).toArray++Builtin.zeroCells (Value.int .u8 0).cells (0+m - 0)++Builtin.zeroCells (Value.int .u8 0).cells (G - (0+m))=cs at hw;have hsz:cs.size=G:=by rw[<- hcs,zdp,zdp,size_zeroCells,size_zeroCells];simp[Value.cells];omega
     have hheap:w'.heap=w.heap.push (.cells cs (qxa.t 25) (0,0)):=by rw[hw];rfl
     have hb:w'.heap[w.heap.size]? =some (.cells cs (qxa.t 25) (0,0)):=by rw[hheap];simp
     have hFr:Fr w bl w':=by refine⟨by rw[hw];rfl,by rw[hw];rfl,by rw[hw];rfl,by rw[hheap,zdj];omega,fun b hb' _=>by rw[hheap,zdi,if_neg (by omega)]⟩
     refine⟨[.slice (some ⟨w.heap.size,0,none⟩) 0 G],Im,fun _=>some (w.heap.size,0,G),rfl,⟨hFr,q8k hg hFr.size rfl ⟨trivial,by rw[hheap];simp,zcg _,fun i hi=>⟨?_, ?_⟩,fun j c hj=>by simp[qaf] at hj⟩ (fun b x y h=> ?_),fun j o o' hj=>by cases hj⟩,rfl,fun j c v hj hv=> ?_⟩
     ·simp[World.cell?,hb,hsz,hi]
     ·simp[World.frozen?,hb]
     ·cases h;exact⟨by rw[hheap];simp,fun hI=>Nat.lt_irrefl _ (hg.im _ hI),zas _⟩
     ·match j,hj,hv with
      | 0,hj,hv=>
       cases hj;cases hv;exact .ref 0 0 0 true 1 ⟨0,1,false⟩ w.heap.size 0 G ⟨w.heap.size,0,none⟩ G rfl rfl rfl (zcg _) (zas _) (fun _=>rfl) (fun _=>rfl) (by omega)
      | j+1,hj,hv=>cases hj
 ·cases h1
theorem qcd{P:Program}{glob:Nat->Option CV}{g:FuncId}{p:List V->List Obj->Bool}{q:Nat->List V->List Obj->Bool}{S:List V->List Obj->Tree}(h: ∀rk,Sound P glob g (fun xs obs=>cond (q rk xs obs) (S xs obs).eval none))(hp: ∀xs obs,p xs obs=true->∃rk,q rk xs obs=true):
  Sound P glob g (fun xs obs=>cond (p xs obs) (S xs obs).eval none):=by
 intro xs obs out w Im ρ bl vs hs;obtain⟨h1,h2⟩:=qaa hs;obtain⟨rk,hq⟩:=hp xs obs h1;exact h rk xs obs out w Im ρ bl vs (by show cond (q rk xs obs) _ _=_;rw[hq];exact h2)
theorem qdi{P:Program}{glob:Nat->Option CV}{g:FuncId}{p:List V->List Obj->Bool}{S:List V->List Obj->Tree}(h: ∀xs obs, ¬p xs obs=true):Sound P glob g (fun xs obs=>cond (p xs obs) (S xs obs).eval none):=by intro xs obs out w Im ρ bl vs hs;exact absurd (qaa hs).1 (h xs obs)
theorem xba8{P:Program}{glob:Nat->Option CV}{g:FuncId}{p:List V->List Obj->Bool}:Sound P glob g (fun xs obs=>cond (p xs obs) ((fun _ _=>Tree.fail:List V->List Obj->Tree) xs obs).eval none):=by intro xs obs out w Im ρ bl vs hs;cases(qaa hs).2
abbrev MX:Prop:=Tryz.prog.follows .mixedOrders=true
abbrev TK(B:Nat->Ct):Prop:=MX->xbcf Tryz.prog qa9 B
abbrev OKS(g:FuncId)(p:List V->List Obj->Bool)(S:List V->List Obj->Tree):Prop:=Sound Tryz.prog qa9 g (fun xs obs=>cond (p xs obs) (S xs obs).eval none)
theorem xbkx:TK BDigits:=fun _=>tab0
theorem xbp4:TK BDLeap:=tc0 EDigits KDigits xbkx Tryz.func130 fun xs obs y h hp=>by unfold KDigits at h;split at h<;>cases h;exact tr (xbog _ hp)
theorem xbp1:TK BDDays:=tc0 EDLeap KDLeap xbp4 Tryz.func139 fun xs obs y h hp=>by unfold KDLeap at h;split at h<;>cases h;rename_i d0 d1 d2 d3 d4 d5;exact tr (xbsz d0 d1 d2 d3 d4 d5 hp)
theorem xbud:TK BDFit:=tc0 EDDays KDDays xbp1 Tryz.func137 fun xs obs y h hp=>by unfold KDDays at h;split at h<;>cases h;rename_i d0 d1 d2 d3 d4 d5;exact tr (xbsx d0 d1 d2 d3 d4 d5 hp)
theorem xbp7:TK BDSecs:=tc0 EDFit KDFit xbud Tryz.func131 fun xs obs y h hp=>by unfold KDFit at h;split at h<;>cases h;exact tr (xbwd _ _ _ _ _ _ hp)
theorem xbqj:TK BSRead:=tc0 EDSecs KDSecs xbp7 Tryz.func132 fun xs obs y h hp=>by unfold KDSecs at h;split at h<;>cases h;exact tr (xbs1 _ _ _ _ _ _ hp)
theorem xbqe:TK BRLeap:=tc0 ESRead KSRead xbqj Tryz.func116 fun xs obs y h hp=>by unfold KSRead at h;split at h<;>cases h;exact tr (xbtf _ hp)
theorem xbqc:TK BRDays:=tc0 ERLeap KRLeap xbqe Tryz.func134 fun xs obs y h hp=>by unfold KRLeap at h;split at h<;>cases h;exact tr (xbta _ hp)
theorem xbk6:TK BRYears:=tc0 ERDays KRDays xbqc Tryz.func122 fun xs obs y h hp=>by unfold KRDays at h;split at h<;>cases h;exact tr (xbs7 _ _ hp)
theorem xbes:TK BRNumber:=tc0 ERYears KRYears xbk6 Tryz.func123 fun xs obs y h hp=>by unfold KRYears at h;split at h<;>cases h;exact tr (xbot _ hp)
theorem xbqf:TK BRRead:=tcT ERNumber KRNumber xbes Tryz.func121 [(true,3)] ⟨⟨_,rfl,qv0⟩,trivial⟩ fun xs obs y h hp=>by unfold KRNumber at h;split at h<;>cases h;exact tr (xbj8 _ hp)
theorem xbkt:TK BDBoxed:=tcT ERRead KRRead xbqf Tryz.func106 [(true,13)] ⟨⟨_,rfl,qx8⟩,trivial⟩ fun xs obs y h hp=>by unfold KRRead at h;split at h<;>cases h;exact tr (xbtb _ hp)
theorem xbk3:TK BRBoxed:=tc0 EDBoxed KDBoxed xbkt Tryz.func94 fun xs obs y h hp=>by unfold KDBoxed at h;split at h<;>cases h;exact tr (xboa _ hp)
theorem xbkv:TK BDKnown:=tc0 ERBoxed KRBoxed xbk3 Tryz.func77 fun xs obs y h hp=>by unfold KRBoxed at h;split at h<;>cases h;exact tr (xbop _ hp)
theorem xbet:TK BRTagged:=tc0 EDKnown KDKnown xbkv Tryz.func97 fun xs obs y h hp=>by unfold KDKnown at h;split at h<;>cases h;exact tr (xbod _ hp)
theorem xbak:TK qsv:=tc0 ERTagged KRTagged xbet Tryz.func76 fun xs obs y h hp=>by unfold KRTagged at h;split at h<;>cases h;exact tr (xbj9 _ hp)
theorem xbel:TK BDNumber:=tc0 xbck qkt xbak Tryz.func99 fun xs obs y h hp=>by unfold qkt at h;split at h<;>cases h;exact tr (xbdy _ hp)
theorem xber:TK qxu:=tc0 EDNumber KDNumber xbel Tryz.func113 fun xs obs y h hp=>by unfold KDNumber at h;split at h<;>cases h;exact tr (xbj1 _ hp)
theorem xbkw:TK BDStrip:=tc0 xbip qxz xber Tryz.func103 fun xs obs y h hp=>by unfold qxz at h;split at h<;>cases h;exact tr (xbj7 _ hp)
theorem xbam:TK qsw:=tc0 EDStrip KDStrip xbkw Tryz.func114 fun xs obs y h hp=>by unfold KDStrip at h;split at h<;>cases h;exact tr (xboe _ hp)
theorem xbqb:TK BRCont:=tc0 xbcl qs0 xbam Tryz.func104 fun xs obs y h hp=>by unfold qs0 at h;split at h<;>cases h;exact tr (xbd2 _ hp)
theorem xbqg:TK BRRune:=tc0 ERCont KRCont xbqb Tryz.func133 fun xs obs y h hp=>by unfold KRCont at h;split at h<;>cases h;exact tr (xbs6 _ _ hp)
theorem xbqh:TK BRUtf8:=tcT ERRune KRRune xbqg Tryz.func120 [(false,10),(false,8)] ⟨⟨_,rfl,qxv⟩,⟨_,rfl,q3x⟩,trivial⟩ fun xs obs y h hp=>by unfold KRRune at h;split at h<;>cases h;exact tr (xbtc _ _ hp)
theorem xbue:TK BOFit:=tcT ERUtf8 KRUtf8 xbqh Tryz.func105 [(true,2)] ⟨⟨_,rfl,q31⟩,trivial⟩ fun xs obs y h hp=>by unfold KRUtf8 at h;split at h<;>cases h;exact tr (xbte _ hp)
theorem xbqa:TK BR2Fit:=tc0 EOFit KOFit xbue Tryz.func60 fun xs obs y h hp=>by unfold KOFit at h;split at h<;>cases h;exact tr (xbwf _ hp)
theorem xbep:TK BR2First:=tc0 ER2Fit KR2Fit xbqa Tryz.func82 fun xs obs y h hp=>by unfold KR2Fit at h;split at h<;>cases h;exact tr (xbs5 _ hp)
theorem xbem:TK BONumber:=tc0 ER2First KR2First xbep Tryz.func111 fun xs obs y h hp=>by unfold KR2First at h;split at h<;>cases h;exact tr (xbj5 _ hp)
theorem qxh:TK BONumbers:=tcT EONumber KONumber xbem Tryz.func128 [(true,3)] ⟨⟨_,rfl,qvx⟩,trivial⟩ fun xs obs y h hp=>by unfold KONumber at h;split at h<;>cases h;exact tr (xbj2 _ hp)
theorem qxn(hm:MX):OKc Tryz.prog qa9 112 KONumbers:=
 rs0 (E:=EONumbers) (N:=40) (keep:=true) (qxh hm) hm Tryz.func112 (by kernel_rfl) fun xs obs y h hp=>by unfold KONumbers at h;split at h<;>cases h;exact tr (xbdz _ hp)
theorem qve:TK BOParse:=fun hm=>tabC (K:=KONumbers) (qxn hm) (qxh hm)
theorem xbll(hm:MX): ∀xs obs ys,q91 xs obs=true->QONums xs obs=some ys->xbrv Tryz.prog qa9 127 xs obs ys:=by
 intro xs obs ys hp h;unfold QONums at h;split at h
 ·rename_i b;cases h;have hE: ∀(l:Nat) (g:FuncId),Sound Tryz.prog (EONums l).glob g (ctr (EONums l) g):=fun l g=>(qaj (qve hm 128) qb1);refine xbex (N:=40) EONums hE hm (fun _=>rfl) (fun _=>rfl) (fun _=>rfl) Tryz.func127 rfl q9b (fun _=>rfl) (by decide) rfl fun l=> ?_;obtain⟨out,h1,h2⟩:=xbs4 l b hp;exact⟨out,(xbc6 l b).trans h1,h2⟩
 ·cases h
theorem xbls(hm:MX):qfm Tryz.prog EOParse:=by
 intro gf xs obs ys hp h;have h:(cond (Nat.beq gf 127) QONums (fun _ _=>none)) xs obs=some ys:=h
 cases hb:Nat.beq gf 127 with
 | false=>rw[hb] at h;cases h
 | true=>
  obtain rfl:=qag.1 hb;exact⟨xbll hm xs obs ys hp h,_,Tryz.func127,rfl,rfl⟩
theorem q5s(hm:MX):OKS 96 qu1 SOParse:=
 qbu (E:=EOParse) (N:=40) (keep:=false) hm (fun g=>(qaj (qve hm 60) (qaj (qve hm 112) xba8))) Tryz.func96 rfl rfl q5c rfl (hsq:=xbls hm) (hS:=by
  intro xs obs out hp h;unfold SOParse at h;split at h
  ·refine⟨by simp[Tryz.f96], ?_⟩;rw[q70];exact(xboi _ hp).trans h
  ·cases h)
theorem xbeq:TK BR2Parse:=fun hm=>tabC (K:=ofS qu1 SOParse) (q5s hm) (qve hm)
theorem xbk1:TK BR1Same:=tcT ER2Parse KR2Parse xbeq Tryz.func93 [(true,5)] ⟨⟨_,rfl,qvz⟩,trivial⟩ fun xs obs y h hp=>by unfold KR2Parse at h;split at h<;>cases h;exact tr (xbj6 _ hp)
theorem xbk2:TK BR4Less:=tcT ER1Same KR1Same xbk1 Tryz.func24 [(true,4)] ⟨⟨_,rfl,qx6⟩,trivial⟩ fun xs obs y h hp=>by unfold KR1Same at h;split at h<;>cases h;exact tr (xbon _ _ hp)
theorem xbq0:TK BUWord:=tcT ER4Less KR4Less xbk2 Tryz.func91 [(true,2)] ⟨⟨_,rfl,qx7⟩,trivial⟩ fun xs obs y h hp=>by unfold KR4Less at h;split at h<;>cases h;exact tr (xboo _ _ hp)
theorem xblh:TK BUValid:=tc0 EUWord KUWord xbq0 Tryz.func129 fun xs obs y h hp=>by unfold KUWord at h;split at h<;>cases h;exact tr (xbty _ hp)
theorem xbhn:TK BRSame:=tcT EUValid KUValid xblh Tryz.func115 [(true,10),(true,2)] ⟨⟨_,rfl,qv3⟩,⟨_,rfl,qy8⟩,trivial⟩ fun xs obs y h hp=>by unfold KUValid at h;split at h<;>cases h;exact tr (xbo6 _ hp)
theorem qsk(hm:MX): ∀rk,OKS 23 (qlz rk) SRSame
 | 0=>qdi fun xs obs h=>by
  unfold qlz at h;split at h
  ·simp only[zab] at h;have:=qi8 h.1;simp[isNf] at this
  ·cases h
 | rk+1=>qbu (E:=ERSame rk) (N:=40) (keep:=false) hm (fun g=>(qaj (qsk hm rk) (qaj (xbhn hm 24) qb1))) Tryz.func23 rfl rfl (q9c rk) rfl (by
  intro xs obs out hp h;have hp:qlz (rk+1) xs obs=true:=hp;have hp0:=hp;unfold qlz at hp;split at hp
  ·rename_i a b;simp only[zab] at hp;obtain⟨_,ta,ba,ka,_,rfl,_⟩:=qob (qi8 hp.1);obtain⟨_,hn⟩:=qmr hp.2;obtain⟨_,tb,bb,kb,_,rfl,_⟩:=qob hn;refine⟨by simp[Tryz.f23], ?_⟩;rw[xbc7];exact(xbtd rk ta ba ka tb bb kb hp0).trans h
  ·cases hp)
theorem qxp(hm:MX):OKS 23 qqi SRSame:=
 qcd (fun rk=>qsk hm rk) fun xs obs h=>by
  unfold qqi at h;split at h
  ·rename_i a b;simp only[zab] at h;obtain⟨n,hn⟩:=qmr h.1;refine⟨n, ?_⟩;show(isNr n a&&isN b)=true;rw[q1t hn,h.2];rfl
  ·cases h
theorem xbp3:TK BDFits:=fun hm=>tabC (K:=ofS qqi SRSame) (qxp hm) (xbhn hm)
theorem xbqd:TK BRFits:=tc0 EDFits KDFits xbp3 Tryz.func98 fun xs obs y h hp=>by unfold KDFits at h;split at h<;>cases h;exact tr (xboc _ _ hp)
theorem xbal:TK BR4Sorted:=tc0 ERFits KRFits xbqd Tryz.func78 fun xs obs y h hp=>by unfold KRFits at h;split at h<;>cases h;exact tr (xbs8 _ _ hp)
theorem q5r:TK BBACompare:=tcT ER4Sorted KR4Sorted xbal Tryz.func80 [(true,2)] ⟨⟨_,rfl,qs8⟩,trivial⟩ fun xs obs y h hp=>by unfold KR4Sorted at h;split at h<;>cases h;exact tr (xbd1 _ hp)
theorem xbaj:TK BBCompare:=fun hm=>tabC (K:=ofS qg7 SBACompare) (qvj hm) (q5r hm)
theorem xbp8:TK BOLess:=tc0 EBCompare KBCompare xbaj Tryz.func63 fun xs obs y h hp=>by unfold KBCompare at h;split at h<;>cases h;exact tr (xbdx _ _ hp)
theorem xbkz:TK BOSteps:=tc0 EOLess KOLess xbp8 Tryz.func118 fun xs obs y h hp=>by unfold KOLess at h;split at h<;>cases h;exact tr (xbs3 _ _ hp)
theorem xben:TK BOSorted:=tcT EOSteps KOSteps xbkz Tryz.func117 [(true,2)] ⟨⟨_,rfl,qx4⟩,trivial⟩ fun xs obs y h hp=>by unfold KOSteps at h;split at h<;>cases h;exact tr (xbol _ hp)
theorem xbk7:TK BSEqual:=tc0 EOSorted KOSorted xben Tryz.func101 fun xs obs y h hp=>by unfold KOSorted at h;split at h<;>cases h;exact tr (xbj3 _ hp)
theorem xbvz:TK BEqF:=tcT ESEqual KSEqual xbk7 Tryz.func71 [(true,4)] ⟨⟨_,rfl,qyc⟩,trivial⟩ fun xs obs y h hp=>by unfold KSEqual at h;split at h<;>cases h;exact tr (xbou _ _ hp)
theorem q3h(hm:MX)(rk:Nat)(hD:OKS 43 (qea rk) SDSame):OKS 42 (q92 rk) SEqF:=
 qbu (E:=EEqF rk) (N:=40) (keep:=false) hm (fun g=>(qaj (hD) qb1)) Tryz.func42 rfl rfl (xbjt rk) rfl (by
  intro xs obs out hp h;unfold SEqF at h;split at h
  ·refine⟨by simp[Tryz.f42], ?_⟩;rw[xbmu];exact(nEqF rk _ _ hp).trans h
  ·cases h)
theorem q5t(hm:MX)(rk:Nat)(hD:OKS 43 (qea rk) SDSame)(hE:OKS 42 (q92 rk) SEqF):OKS 43 (qea (rk+1)) SDSame:=
 qbu (E:=EDSame rk) (N:=40) (keep:=false) hm (fun g=>(qaj (hE) (qaj (hD) (qaj (xbvz hm 71) qb1)))) Tryz.func43 rfl rfl (q89 rk) rfl (by
  intro xs obs out hq h;have hp:qea (rk+1) xs obs=true:=hq;have hp0:qea (rk+1) xs obs=true:=hq;clear hq;unfold qea at hp;split at hp
  ·rename_i a b;simp only[zab] at hp;obtain⟨_,ta,ba,ka,_,rfl,_⟩:=qob (qi8 hp.1);obtain⟨_,hn⟩:=qmr hp.2;obtain⟨_,tb,bb,kb,_,rfl,_⟩:=qob hn;refine⟨by simp[Tryz.f43], ?_⟩;rw[xbc3];exact(xbs0 rk ta ba ka tb bb kb hp0).trans h
  ·cases hp)
theorem q3g(hm:MX): ∀rk,OKS 43 (qea rk) SDSame
 | 0=>qdi fun xs obs h=>by
  unfold qea at h;split at h
  ·simp only[zab] at h;have:=qi8 h.1;simp[isNf] at this
  ·cases h
 | rk+1=>q5t hm rk (q3g hm rk) (q3h hm rk (q3g hm rk))
theorem xba3(hm:MX):OKS 43 qu0 SDSame:=
 qcd (fun rk=>q3g hm rk) fun xs obs h=>by
  unfold qu0 at h;split at h
  ·rename_i a b;simp only[zab] at h;obtain⟨n,hn⟩:=qmr h.1;refine⟨n, ?_⟩;show(isNr n a&&isN b)=true;rw[q1t hn,h.2];rfl
  ·cases h
theorem xblr(hm:MX):OKS 42 xbeg SEqF:=
 qcd (fun rk=>q3h hm rk (q3g hm rk)) fun xs obs h=>by
  unfold xbeg at h;split at h
  ·rename_i a b;simp only[zab] at h;obtain⟨hl,n,hn⟩:=q1u h.1;refine⟨n, ?_⟩;show(xbgw n a&&isNs b)=true;rw[q8r hl hn,h.2];rfl
  ·cases h
theorem xbp6:TK BDSame:=fun hm=>tabC (K:=ofS xbeg SEqF) (xblr hm) (xbvz hm)
theorem xbk5:TK BRSmall:=fun hm=>tabC (K:=ofS qu0 SDSame) (xba3 hm) (xbp6 hm)
theorem qqs(hm:MX): ∀rk,OKS 14 (qgg rk) SRSmall
 | 0=>qdi fun xs obs h=>by
  unfold qgg at h;split at h
  ·simp only[zab] at h;have:=qt6 h.1;simp[isTf] at this
  ·cases h
 | rk+1=>qbu (E:=ERSmall rk) (N:=40) (keep:=false) hm (fun g=>(qaj (qqs hm rk) qb1)) Tryz.func14 rfl rfl (q5e rk) rfl (by
  intro xs obs out hq h;have hp:qgg (rk+1) xs obs=true:=hq;have hp0:qgg (rk+1) xs obs=true:=hq;clear hq;unfold qgg at hp;split at hp
  ·rename_i a n
   try simp only[zab] at hp
   have ha:=qt6 hp.1;obtain⟨_,ta,ba,ka,_,rfl,_⟩:=qch ha;refine⟨by simp[Tryz.f14], ?_⟩;rw[q8a];exact(xbor rk ta ba ka n hp0).trans h
  ·cases hp)
theorem qsl(hm:MX):OKS 14 ql0 SRSmall:=
 qcd (fun rk=>qqs hm rk) fun xs obs h=>by
  unfold ql0 at h;split at h
  ·rename_i a n;simp only[zab] at h;obtain⟨n',hn⟩:=qhx h.1;refine⟨n', ?_⟩;show(isTr n' a&&qoa n)=true;rw[xbgz hn,h.2];rfl
  ·cases h
theorem qxg:TK BDSize:=fun hm=>tabC (K:=ofS ql0 SRSmall) (qsl hm) (xbk5 hm)
theorem qsj(hm:MX): ∀rk,OKS 74 (qjr rk) SDSize
 | 0=>qdi fun xs obs h=>by
  unfold qjr at h;split at h
  ·simp only[zab] at h;have:=(qi9 h.1).1;simp[isTf] at this
  ·cases h
 | rk+1=>qbu (E:=EDSize rk) (N:=40) (keep:=false) hm (fun g=>(qaj (qsj hm rk) (qaj (qxg hm 94) (qaj (qxg hm 97) (qaj (qxg hm 98) (qaj (qxg hm 99) qb1)))))) Tryz.func74 rfl rfl (q9a rk) rfl (by
  intro xs obs out hq h;have hp:qjr (rk+1) xs obs=true:=hq;have hp0:qjr (rk+1) xs obs=true:=hq;clear hq;unfold qjr at hp;split at hp
  ·rename_i a n
   try simp only[zab] at hp
   have ha:=(qi9 hp.1).1;obtain⟨_,ta,ba,ka,_,rfl,_⟩:=qch ha;refine⟨by simp[Tryz.f74], ?_⟩;rw[xbc4];exact(xbs2 rk ta ba ka n hp0).trans h
  ·cases hp)
theorem qxm(hm:MX):OKS 74 qqh SDSize:=
 qcd (fun rk=>qsj hm rk) fun xs obs h=>by
  unfold qqh at h;split at h
  ·rename_i a n;simp only[zab] at h;obtain⟨n',hn,hb⟩:=qcp h.1;refine⟨n', ?_⟩;show(isSr n' a&&qjy n)=true;rw[q1v hn hb,h.2];rfl
  ·cases h
theorem xbp5:TK BDPut:=fun hm=>tabC (K:=ofS qqh SDSize) (qxm hm) (qxg hm)
theorem xbe1(hm:MX):OKc Tryz.prog qa9 100 KDPut:=
 rs (E:=EDPut) (N:=40) (keep:=true) (xbp5 hm) hm Tryz.func100 (lsB (ids:=[(true,7)]) (by kernel_rfl) ⟨⟨_,rfl,q6d⟩,trivial⟩) fun xs obs y h hp=>by unfold KDPut at h;split at h<;>cases h;exact tr (xbwe _ _ hp)
theorem xbhm:TK BRHead:=fun hm=>tabC (K:=KDPut) (xbe1 hm) (xbp5 hm)
theorem xba4(hm:MX):OKc Tryz.prog qa9 79 KRHead:=
 rs0 (E:=ERHead) (N:=40) (keep:=true) (xbhm hm) hm Tryz.func79 (by kernel_rfl) fun xs obs y h hp=>by unfold KRHead at h;split at h<;>cases h;exact tr (xbs9 _ _ hp)
theorem xbk0:TK BR1Join:=fun hm=>tabC (K:=KRHead) (xba4 hm) (xbhm hm)
theorem xbqi:TK BSGrow:=tcT ER1Join KR1Join xbk0 Tryz.func81 [(true,3)] ⟨⟨_,rfl,qx5⟩,trivial⟩ fun xs obs y h hp=>by unfold KR1Join at h;split at h<;>cases h;exact tr (xbom _ hp)
theorem xbeu:TK BSConcat:=fun hm=>tabC (K:=ofS qu4 SSGrow) (xba5 hm) (xbqi hm)
theorem qqp:TK BDWrite:=tcT ESConcat KSConcat xbeu Tryz.func102 [(true,3),(true,11)] ⟨⟨_,rfl,qv2⟩,⟨_,rfl,qtb⟩,trivial⟩ fun xs obs y h hp=>by unfold KSConcat at h;split at h<;>cases h;exact tr (xbka _ hp)
theorem qqr(hm:MX): ∀rk,OKS 75 (qgf rk) SDWrite
 | 0=>qdi fun xs obs h=>by
  unfold qgf at h;split at h
  ·have:=(qt7 h).1;simp[isTf] at this
  ·cases h
 | rk+1=>qbu (E:=EDWrite rk) (N:=40) (keep:=false) hm (fun g=>(qaj (qqr hm rk) (qaj (qqp hm 94) (qaj (qqp hm 100) (qaj (qqp hm 101) (qaj (qqp hm 102) qb1)))))) Tryz.func75 rfl rfl (q5b rk) rfl (by
  intro xs obs out hq h;have hp:qgf (rk+1) xs obs=true:=hq;have hp0:qgf (rk+1) xs obs=true:=hq;clear hq;unfold qgf at hp;split at hp
  ·rename_i a
   try simp only[zab] at hp
   have ha:=(qt7 hp).1;obtain⟨_,ta,ba,ka,_,rfl,_⟩:=qch ha;refine⟨by simp[Tryz.f75], ?_⟩;rw[q7u];exact(xbof rk ta ba ka hp0).trans h
  ·cases hp)
theorem qsh(hm:MX):OKS 75 qly SDWrite:=
 qcd (fun rk=>qqr hm rk) fun xs obs h=>by
  unfold qly at h;split at h
  ·rename_i a;unfold isW at h;rw[qab] at h;obtain⟨n,hn⟩:=@of_decide_eq_true _ (Classical.propDecidable _) h;exact⟨n,xbg0 hn⟩
  ·cases h
theorem qko:TK BRWrite:=fun hm=>tabC (K:=ofS qly SDWrite) (qsh hm) (qqp hm)
theorem qqt(hm:MX): ∀rk,OKS 51 (qgh rk) SRWrite
 | 0=>qdi fun xs obs h=>by
  unfold qgh at h;split at h
  ·simp only[zab] at h;have:=(qi9 h.1).1;simp[isTf] at this
  ·cases h
 | rk+1=>qbu (E:=ERWrite rk) (N:=40) (keep:=false) hm (fun g=>(qaj (qqt hm rk) (qaj (qko hm 76) (qaj (qko hm 77) (qaj (qko hm 78) (qaj (qko hm 79) (qaj (qko hm 80) (qaj (qko hm 81) qb1)))))))) Tryz.func51 rfl rfl (q5f rk) rfl (by
  intro xs obs out hq h;have hp:qgh (rk+1) xs obs=true:=hq;have hp0:qgh (rk+1) xs obs=true:=hq;clear hq;unfold qgh at hp;split at hp
  ·rename_i a n
   try simp only[zab] at hp
   have ha:=(qi9 hp.1).1;obtain⟨_,ta,ba,ka,_,rfl,_⟩:=qch ha;refine⟨by simp[Tryz.f51], ?_⟩;rw[q8d];exact(xbos rk ta ba ka n hp0).trans h
  ·cases hp)
theorem qso(hm:MX):OKS 51 ql1 SRWrite:=
 qcd (fun rk=>qqt hm rk) fun xs obs h=>by
  unfold ql1 at h;split at h
  ·rename_i a n;simp only[zab] at h;obtain⟨n',hn,hb⟩:=qcp h.1;refine⟨n', ?_⟩;show(isSr n' a&&qjy n)=true;rw[q1v hn hb,h.2];rfl
  ·cases h
theorem xbku:TK BDBytes:=fun hm=>tabC (K:=ofS ql1 SRWrite) (qso hm) (qko hm)
theorem qsg(hm:MX):OKS 50 qg8 SDBytes:=
 qbu (E:=EDBytes) (N:=40) (keep:=false) hm (fun g=>(qaj (qxm hm) (qaj (qsh hm) qb1))) Tryz.func50 rfl rfl q5a rfl (by
  intro xs obs out hq h;have hp:qg8 xs obs=true:=hq;have hp0:qg8 xs obs=true:=hq;clear hq;unfold qg8 at hp;split at hp
  ·rename_i a
   try simp only[zab] at hp
   obtain⟨_,ha,_⟩:=qcp hp;obtain⟨_,ta,ba,ka,_,rfl,_⟩:=qch ha;refine⟨by simp[Tryz.f50], ?_⟩;rw[q7r];exact(xbob ta ba ka hp0).trans h
  ·cases hp)
theorem xbp2:TK xbma:=fun hm=>tabC (K:=ofS qg8 SDBytes) (qsg hm) (xbku hm)
theorem xba2(hm:MX):OKS 33 qnd xbis:=
 qbu (E:=xbio) (N:=40) (keep:=false) hm (fun g=>(qaj (qsg hm) qb1)) Tryz.func33 rfl rfl q88 rfl (by
  intro xs obs out hq h;have hp:qnd xs obs=true:=hq;have hp0:qnd xs obs=true:=hq;clear hq;unfold qnd at hp;split at hp
  ·rename_i a
   try simp only[zab] at hp
   obtain⟨_,ha,_⟩:=qcp hp;obtain⟨_,ta,ba,ka,_,rfl,_⟩:=qch ha;refine⟨by simp[Tryz.f33], ?_⟩;rw[xbc2];exact(xbsy ta ba ka hp0).trans h
  ·cases hp)
theorem xbk4:TK BRBytes:=fun hm=>tabC (K:=ofS qnd xbis) (xba2 hm) (xbp2 hm)
theorem qsi(hm:MX):OKS 25 qg9 SRBytes:=
 qbu (E:=ERBytes) (N:=40) (keep:=false) hm (fun g=>(qaj (qso hm) qb1)) Tryz.func25 rfl rfl q5d rfl (by
  intro xs obs out hq h;have hp:qg9 xs obs=true:=hq;have hp0:qg9 xs obs=true:=hq;clear hq;unfold qg9 at hp;split at hp
  ·rename_i a
   try simp only[zab] at hp
   obtain⟨_,ha,_⟩:=qcp hp;obtain⟨_,ta,ba,ka,_,rfl,_⟩:=qch ha;refine⟨by simp[Tryz.f25], ?_⟩;rw[q76];exact(xboq ta ba ka hp0).trans h
  ·cases hp)
theorem xblf:TK BTUSame:=fun hm=>tabC (K:=ofS qg9 SRBytes) (qsi hm) (xbk4 hm)
theorem xbup:TK BTSEq:=tcT ETUSame KTUSame xblf Tryz.func28 [(true,4)] ⟨⟨_,rfl,qy4⟩,trivial⟩ fun xs obs y h hp=>by unfold KTUSame at h;split at h<;>cases h;exact tr (xbo4 _ _ hp)
theorem xbk9:TK BTOSame:=tcT ETSEq KTSEq xbup Tryz.func70 [(true,4)] ⟨⟨_,rfl,q6p⟩,trivial⟩ fun xs obs y h hp=>by unfold KTSEq at h;split at h<;>cases h;exact tr (xbwp _ _ hp)
theorem xbp9:TK BOPut:=tc0 ETOSame KTOSame xbk9 Tryz.func41 fun xs obs y h hp=>by unfold KTOSame at h;split at h<;>cases h;exact tr (xboy _ _ hp)
theorem xbe2(hm:MX):OKc Tryz.prog qa9 110 KOPut:=
 rs (E:=EOPut) (N:=40) (keep:=true) (xbp9 hm) hm Tryz.func110 (lsB (ids:=[(false,2)]) (by kernel_rfl) ⟨⟨_,rfl,q6a⟩,trivial⟩) fun xs obs y h hp=>by
  unfold KOPut at h;split at h
  ·cases h;exact tr (xboj _ hp)
  ·cases h;rename_i m n l;exact tr (xbok m n l hp)
  ·cases h
theorem qxi:TK BR2Groups:=fun hm=>tabC (K:=KOPut) (xbe2 hm) (xbp9 hm)
theorem qxo(hm:MX):OKc Tryz.prog qa9 83 KR2Groups:=
 rs (E:=ER2Groups) (N:=40) (keep:=true) (qxi hm) hm Tryz.func83 (lsB (ids:=[(true,3)]) (by kernel_rfl) ⟨⟨_,rfl,qs6⟩,trivial⟩) fun xs obs y h hp=>by unfold KR2Groups at h;split at h<;>cases h;exact tr (xbd0 _ hp)
theorem xbky:TK BOBytes:=fun hm=>tabC (K:=KR2Groups) (qxo hm) (qxi hm)
theorem xbeo:TK BR2Bytes:=tcT EOBytes KOBytes xbky Tryz.func89 [(true,5)] ⟨⟨_,rfl,qx2⟩,trivial⟩ fun xs obs y h hp=>by unfold KOBytes at h;split at h<;>cases h;exact tr (xboh _ hp)
theorem xblk:TK q56:=tcT ER2Bytes KR2Bytes xbeo Tryz.func53 [(true,5)] ⟨⟨_,rfl,qvy⟩,trivial⟩ fun xs obs y h hp=>by unfold KR2Bytes at h;split at h<;>cases h;exact tr (xbj4 _ hp)
theorem xbq1:TK xbin:=tc0 xbmb q6b xblk Tryz.func95 fun xs obs y h hp=>by unfold q6b at h;split at h<;>cases h;exact tr (xbo9 _ _ _ hp)
theorem xbq3:TK BVMade:=tc0 xbr6 xbiq xbq1 Tryz.func73 fun xs obs y h hp=>by unfold xbiq at h;split at h<;>cases h;exact tr (xbtz _ _ _ hp)
theorem xbwz:TK BVId:=tc0 EVMade KVMade xbq3 Tryz.func88 fun xs obs y h hp=>by unfold KVMade at h;split at h<;>cases h;exact tr (xbt1 _ _ hp)
theorem xblj:TK BVRMade:=tc0 EVId KVId xbwz Tryz.func64 fun xs obs y h hp=>by unfold KVId at h;split at h<;>cases h;exact tr (nVId _ hp)
theorem xbuv:TK BVRId:=tc0 EVRMade KVRMade xblj Tryz.func52 fun xs obs y h hp=>by unfold KVRMade at h;split at h<;>cases h;exact tr (xbo8 _ _ hp)
theorem xbli:TK BVClone:=tc0 EVRId KVRId xbuv Tryz.func27 fun xs obs y h hp=>by unfold KVRId at h;split at h<;>cases h;exact tr (xbwv _ hp)
theorem xbuw:TK BVSeq:=tc0 EVClone KVClone xbli Tryz.func90 fun xs obs y h hp=>by unfold KVClone at h;split at h<;>cases h;exact tr (xbo7 _ hp)
theorem xbq2:TK BVKids:=tc0 EVSeq KVSeq xbuw Tryz.func65 fun xs obs y h hp=>by unfold KVSeq at h;split at h<;>cases h;exact tr (xbww _ hp)
theorem xbq4:TK BVRSeq:=tc0 EVKids KVKids xbq2 Tryz.func72 fun xs obs y h hp=>by unfold KVKids at h;split at h<;>cases h;exact tr (xbt0 _ _ _ _ hp)
theorem xbqm:TK BTCmp4:=tc0 EVRSeq KVRSeq xbq4 Tryz.func38 fun xs obs y h hp=>by unfold KVRSeq at h;split at h<;>cases h;exact tr (xbt2 _ hp)
theorem xbld:TK BTSwap4:=tc0 ETCmp4 KTCmp4 xbqm Tryz.func85 fun xs obs y h hp=>by unfold KTCmp4 at h;split at h<;>cases h;rename_i tp bp kp wp tq bq kq wq;exact tr (xbti tp bp kp wp tq bq kq wq hp)
theorem xbqu:TK BTRot4:=tcT ETSwap4 KTSwap4 xbld Tryz.func138 [(true,1)] ⟨⟨_,rfl,qys⟩,trivial⟩ fun xs obs y h hp=>by unfold KTSwap4 at h;split at h<;>cases h;exact tr (xbo2 _ _ _ _ _ hp)
theorem xbao:TK BTSym4:=tcT ETRot4 KTRot4 xbqu Tryz.func135 [(true,2)] ⟨⟨_,rfl,q39⟩,trivial⟩ fun xs obs y h hp=>by unfold KTRot4 at h;split at h<;>cases h;exact tr (xbtq _ _ _ _ _ hp)
theorem qsn(hm:MX): ∀rk,OKS 125 (qu3 rk) STSym4
 | 0=>qdi fun xs obs h=>by
  unfold qu3 at h;split at h
  ·simp only[zab,decide_eq_true_eq] at h;omega
  ·cases h
 | rk+1=>qbu (E:=ETSym4 rk) (N:=40) (keep:=false) hm (fun g=>(qaj (xbao hm 85) (qaj (qsn hm rk) (qaj (xbao hm 135) qb1)))) Tryz.func125 rfl rfl (q9e rk) rfl (by
  intro xs obs out hp h;unfold STSym4 at h;split at h
  ·rename_i m a p b l;refine⟨by simp[Tryz.f125], ?_⟩;rw[xbc9];have hp:(rows4 m l&&(qdk m a p b&&(half4 l a p b&&decide ((b - a).toNat<rk+1))))=true:=hp;simp only[zab,decide_eq_true_eq] at hp;exact(xbtv rk m a p b l (by rw[hp.1,hp.2.1,hp.2.2.1];rfl) hp.2.2.2).trans h
  ·cases h)
theorem xba7(hm:MX):OKS 125 qu6 STSym4:=
 qcd (fun rk=>qsn hm rk) fun xs obs h=>by
  unfold qu6 at h;split at h
  ·rename_i m a p b l;simp only[zab] at h;refine⟨(b - a).toNat+1, ?_⟩;show(rows4 m l&&(qdk m a p b&&(half4 l a p b&&decide ((b - a).toNat<(b - a).toNat+1))))=true;rw[h.1,h.2.1,h.2.2,decide_eq_true (Nat.lt_succ_self _)];rfl
  ·cases h
theorem xbqo:TK BTIns4:=fun hm=>tabC (K:=ofS qu6 STSym4) (xba7 hm) (xbao hm)
theorem xbqx:TK BTSta4:=tcT ETIns4 KTIns4 xbqo Tryz.func124 [(true,4),(true,1)] ⟨⟨_,rfl,q35⟩,⟨_,rfl,q34⟩,trivial⟩ fun xs obs y h hp=>by unfold KTIns4 at h;split at h<;>cases h;exact tr (xbtk _ _ _ _ hp)
theorem xblb:TK BTSort4:=tcT ETSta4 KTSta4 xbqx Tryz.func107 [(true,2),(true,9),(true,7)] ⟨⟨_,rfl,q4d⟩,⟨_,rfl,q4f⟩,⟨_,rfl,q4e⟩,trivial⟩ fun xs obs y h hp=>by unfold KTSta4 at h;split at h<;>cases h;exact tr (xbtt _ _ _ hp)
theorem xbql:TK BTCmp3:=tc0 ETSort4 KTSort4 xblb Tryz.func84 fun xs obs y h hp=>by unfold KTSort4 at h;split at h<;>cases h;exact tr (xbo0 _ _ hp)
theorem xblc:TK BTSwap3:=tc0 ETCmp3 KTCmp3 xbql Tryz.func62 fun xs obs y h hp=>by unfold KTCmp3 at h;split at h<;>cases h;rename_i op kp wp oq kq wq;exact tr (xbth op kp wp oq kq wq hp)
theorem xbqt:TK BTRot3:=tcT ETSwap3 KTSwap3 xblc Tryz.func136 [(true,1)] ⟨⟨_,rfl,qyr⟩,trivial⟩ fun xs obs y h hp=>by unfold KTSwap3 at h;split at h<;>cases h;exact tr (xbo1 _ _ _ _ _ hp)
theorem xban:TK BTSym3:=tcT ETRot3 KTRot3 xbqt Tryz.func126 [(true,2)] ⟨⟨_,rfl,q38⟩,trivial⟩ fun xs obs y h hp=>by unfold KTRot3 at h;split at h<;>cases h;exact tr (xbtp _ _ _ _ _ hp)
theorem qsm(hm:MX): ∀rk,OKS 109 (qu2 rk) STSym3
 | 0=>qdi fun xs obs h=>by
  unfold qu2 at h;split at h
  ·simp only[zab,decide_eq_true_eq] at h;omega
  ·cases h
 | rk+1=>qbu (E:=ETSym3 rk) (N:=40) (keep:=false) hm (fun g=>(qaj (xban hm 62) (qaj (qsm hm rk) (qaj (xban hm 126) qb1)))) Tryz.func109 rfl rfl (q9d rk) rfl (by
  intro xs obs out hp h;unfold STSym3 at h;split at h
  ·rename_i m a p b l;refine⟨by simp[Tryz.f109], ?_⟩;rw[xbc8];have hp:(rows3 m l&&(qdk m a p b&&(half3 l a p b&&decide ((b - a).toNat<rk+1))))=true:=hp;simp only[zab,decide_eq_true_eq] at hp;exact(xbtu rk m a p b l (by rw[hp.1,hp.2.1,hp.2.2.1];rfl) hp.2.2.2).trans h
  ·cases h)
theorem xba6(hm:MX):OKS 109 qu5 STSym3:=
 qcd (fun rk=>qsm hm rk) fun xs obs h=>by
  unfold qu5 at h;split at h
  ·rename_i m a p b l;simp only[zab] at h;refine⟨(b - a).toNat+1, ?_⟩;show(rows3 m l&&(qdk m a p b&&(half3 l a p b&&decide ((b - a).toNat<(b - a).toNat+1))))=true;rw[h.1,h.2.1,h.2.2,decide_eq_true (Nat.lt_succ_self _)];rfl
  ·cases h
theorem xbqn:TK BTIns3:=fun hm=>tabC (K:=ofS qu5 STSym3) (xba6 hm) (xban hm)
theorem xbqw:TK BTSta3:=tcT ETIns3 KTIns3 xbqn Tryz.func108 [(true,4),(true,1)] ⟨⟨_,rfl,q33⟩,⟨_,rfl,q32⟩,trivial⟩ fun xs obs y h hp=>by unfold KTIns3 at h;split at h<;>cases h;exact tr (xbtj _ _ _ _ hp)
theorem xbla:TK BTSort3:=tcT ETSta3 KTSta3 xbqw Tryz.func86 [(true,2),(true,9),(true,7)] ⟨⟨_,rfl,q4a⟩,⟨_,rfl,q4c⟩,⟨_,rfl,q4b⟩,trivial⟩ fun xs obs y h hp=>by unfold KTSta3 at h;split at h<;>cases h;exact tr (xbts _ _ _ hp)
theorem xbk8:TK BTClone:=tc0 ETSort3 KTSort3 xbla Tryz.func61 fun xs obs y h hp=>by unfold KTSort3 at h;split at h<;>cases h;exact tr (xboz _ _ hp)
theorem xbuu:TK BTTw1:=tc0 ETClone KTClone xbk8 Tryz.func58 fun xs obs y h hp=>by unfold KTClone at h;split at h<;>cases h;exact tr (xbov _ hp)
theorem xbum:TK BTOn1:=tc0 ETTw1 KTTw1 xbuu Tryz.func55 fun xs obs y h hp=>by unfold KTTw1 at h;split at h<;>cases h;rename_i o k p q;exact tr (xbwu o k p q hp)
theorem xbuj:TK BTIdx:=tc0 ETOn1 KTOn1 xbum Tryz.func49 fun xs obs y h hp=>by unfold KTOn1 at h;split at h<;>cases h;rename_i o k p;exact tr (xbwm o k p hp)
theorem xbug:TK BTCon:=tcT ETIdx KTIdx xbuj Tryz.func48 [(true,2)] ⟨⟨_,rfl,q6j⟩,trivial⟩ fun xs obs y h hp=>by
  unfold KTIdx at h;split at h
  ·cases h;exact tr (xbow _ _ _ hp)
  ·cases h;exact tr (xbox _ _ hp)
  ·cases h
theorem xble:TK BTTwice:=tc0 ETCon KTCon xbug Tryz.func54 fun xs obs y h hp=>by unfold KTCon at h;split at h<;>cases h;exact tr (xbwh _ _ _ hp)
theorem xbqr:TK BTOrd1:=tcT ETTwice KTTwice xble Tryz.func29 [(true,2)] ⟨⟨_,rfl,qy3⟩,trivial⟩ fun xs obs y h hp=>by unfold KTTwice at h;split at h<;>cases h;exact tr (xbo3 _ hp)
theorem xbul:TK xbr3:=tc0 ETOrd1 KTOrd1 xbqr Tryz.func57 fun xs obs y h hp=>by unfold KTOrd1 at h;split at h<;>cases h;exact tr (xbtn _ _ _ hp)
theorem xbut:TK xbr5:=tcT xbu5 xbr9 xbul Tryz.func56 [(true,3)] ⟨⟨_,rfl,q6n⟩,trivial⟩ fun xs obs y h hp=>by unfold xbr9 at h;split at h<;>cases h;exact tr (xbwl _ hp)
theorem xbus:TK xbr4:=tcT xbu7 xbsb xbut Tryz.func59 [(true,3)] ⟨⟨_,rfl,q6t⟩,trivial⟩ fun xs obs y h hp=>by unfold xbsb at h;split at h<;>cases h;exact tr (xbwt _ hp)
theorem xbuo:TK BTOrd:=tcT xbu6 xbsa xbus Tryz.func35 [(true,3)] ⟨⟨_,rfl,q6r⟩,trivial⟩ fun xs obs y h hp=>by unfold xbsa at h;split at h<;>cases h;exact tr (xbws _ hp)
theorem xbwy:TK BTNd:=tc0 ETOrd KTOrd xbuo Tryz.func30 fun xs obs y h hp=>by unfold KTOrd at h;split at h<;>cases h;exact tr (xbwo _ _ hp)
theorem xbuk:TK xbr2:=tc0 ETNd KTNd xbwy Tryz.func32 fun xs obs y h hp=>by unfold KTNd at h;split at h<;>cases h;exact tr (nTNd _ _ hp)
theorem xbuf:TK BTBox:=tcT xbu4 xbr8 xbuk Tryz.func31 [(true,3)] ⟨⟨_,rfl,q6l⟩,trivial⟩ fun xs obs y h hp=>by unfold xbr8 at h;split at h<;>cases h;exact tr (xbwk _ hp)
theorem xbqp:TK BTMake:=tcT ETBox KTBox xbuf Tryz.func34 [(true,3)] ⟨⟨_,rfl,q6f⟩,trivial⟩ fun xs obs y h hp=>by unfold KTBox at h;split at h<;>cases h;exact tr (xbwg _ _ hp)
theorem xbuq:TK BTSa1:=tcT ETMake KTMake xbqp Tryz.func8 [(true,5)] ⟨⟨_,rfl,q36⟩,trivial⟩ fun xs obs y h hp=>by unfold KTMake at h;split at h<;>cases h;exact tr (xbtl _ hp)
theorem xbuh:TK xbr1:=tc0 ETSa1 KTSa1 xbuq Tryz.func40 fun xs obs y h hp=>by unfold KTSa1 at h;split at h<;>cases h;exact tr (xbwq _ _ _ _ hp)
theorem xbqv:TK BTSame:=tcT xbu3 xbr7 xbuh Tryz.func39 [(true,4)] ⟨⟨_,rfl,q6h⟩,trivial⟩ fun xs obs y h hp=>by unfold xbr7 at h;split at h<;>cases h;exact tr (xbwi _ _ hp)
theorem xbui:TK BTFit:=tc0 ETSame KTSame xbqv Tryz.func13 fun xs obs y h hp=>by unfold KTSame at h;split at h<;>cases h;exact tr (xbtr _ _ hp)
theorem xbur:TK BTTag:=tc0 ETFit KTFit xbui Tryz.func10 fun xs obs y h hp=>by unfold KTFit at h;split at h<;>cases h;exact tr (xbwj _ hp)
theorem xbqq:TK BTNode:=tc0 ETTag KTTag xbur Tryz.func44 fun xs obs y h hp=>by unfold KTTag at h;split at h<;>cases h;exact tr (xbwr _ hp)
theorem xbqk:TK BTAttr:=tc0 ETNode KTNode xbqq Tryz.func15 fun xs obs y h hp=>by unfold KTNode at h;split at h<;>cases h;exact tr (xbtm _ _ hp)
theorem xbqs:TK BTRead:=tc0 ETAttr KTAttr xbqk Tryz.func46 fun xs obs y h hp=>by unfold KTAttr at h;split at h<;>cases h;exact tr (xbtg _ _ _ hp)
theorem xbun:TK BTOne:=tcT ETRead KTRead xbqs Tryz.func17 [(true,5)] ⟨⟨_,rfl,q37⟩,trivial⟩ fun xs obs y h hp=>by unfold KTRead at h;split at h<;>cases h;exact tr (xbto _ _ _ _ hp)
theorem xbqy:TK BTText:=tc0 ETOne KTOne xbun Tryz.func19 fun xs obs y h hp=>by unfold KTOne at h;split at h<;>cases h;exact tr (xbwn _ _ hp)
theorem xbqz:TK BUSame:=tc0 ETText KTText xbqy Tryz.func21 fun xs obs y h hp=>by unfold KTText at h;split at h<;>cases h;exact tr (xbtw _ hp)
theorem xblg:TK BUSmall:=tcT EUSame KUSame xbqz Tryz.func12 [(true,4)] ⟨⟨_,rfl,q4k⟩,trivial⟩ fun xs obs y h hp=>by unfold KUSame at h;split at h<;>cases h;exact tr (xbtx _ _ hp)
theorem xbew:TK BWASmall:=tcT EUSmall KUSmall xblg Tryz.func26 [(true,7),(true,3)] ⟨⟨_,rfl,qy7⟩,⟨_,rfl,qy6⟩,trivial⟩ fun xs obs y h hp=>by unfold KUSmall at h;split at h<;>cases h;exact tr (xbo5 _ _ hp)
theorem xbev:TK BWAAwake:=tc0 EWASmall KWASmall xbew Tryz.func6 fun xs obs y h hp=>by unfold KWASmall at h;split at h<;>cases h;exact tr (xbkc _ hp)
theorem qhc:TK BWABack:=tc0 EWAAwake KWAAwake xbev Tryz.func7 fun xs obs y h hp=>by unfold KWAAwake at h;split at h<;>cases h;exact tr (xbkb hp)
theorem q5u(hm:MX):OKS 5 qu7 SWABack:=
 qbu (E:=EWABack) (N:=40) (keep:=false) hm (fun g=>(qaj (qhc hm 6) (qaj (qhc hm 7) (qaj (qhc hm 8) (qaj (qhc hm 10) (qaj (qhc hm 12) (qaj (qsl hm) (qaj (qhc hm 15) (qaj (qhc hm 17) (qaj (qhc hm 21) (qaj (qxp hm) (qaj (qhc hm 24) (qaj (qsi hm) qb1))))))))))))) Tryz.func5 rfl rfl q5g rfl (by
  intro xs obs out hp h;unfold SWABack at h;split at h
  ·refine⟨by simp[Tryz.f5], ?_⟩;rw[q8g];exact(xbpa _ _ _ _ _ _ hp).trans h
  ·cases h)
end Go.Proofs.YtoiikagnjcjccaaGreatDoorA
