/-
 The library's comparison of bytes: its contract holds. Conditions: none.
-/
import Derived.Test.YtoaakappnhemiaaGreatDoorT3b
import Derived.Lib.BytesEntry
import Derived.Test.YtoaakappnhemiaaGreatDoorK3
import Derived.Shelf.Spec.SlicesGrow
import Derived.Test.YtoaakappnhemiaaGreatDoorT4
set_option linter.unusedVariables false
set_option linter.unusedSimpArgs false
set_option maxRecDepth 100000
namespace Go.Proofs.YtoaakappnhemiaaGreatDoorA
theorem xbfj{P:Program}{w:World}{Im:Nat->Prop}{l:List Int}{v:Value}(h:CRep w Im (.sli .u8 l) v):(Extern.Bytes.bytesOf v).run P w=.ok ⟨(Lib.bytesOf l).toArray⟩ w:=by
 cases h with
 | sli _ _ a len cap hl hc hcell=>
  cases a with
  | none=>
   have:l=[]:=by
    cases l with
    | nil=>rfl
    | cons x r=>obtain⟨ad,e,_⟩:=hcell 0 x rfl;cases e
   subst this;rfl
  | some ad=>
   subst hl;have:=Lib.run_loadBytesX (P:=P) w l ad .empty (fun j x hj=>by obtain⟨ad',e,_,hc⟩:=hcell j x hj;cases e;exact hc);refine this.trans ?_;congr 1;apply ByteArray.ext;show(#[]:Array UInt8)++(Lib.bytesOf l).toArray=(Lib.bytesOf l).toArray;simp
theorem xbdg: ∀(a b:List Int),(∀x∈a,0<=x/\x<=255)->(∀x∈b,0<=x/\x<=255)->Lib.compareBytes (Lib.bytesOf a) (Lib.bytesOf b)=qbn a b
 | [],[],_,_=>rfl
 | [],_::_,_,_=>rfl
 | _::_,[],_,_=>rfl
 | x::a,y::b,ha,hb=>by
  have ih:=xbdg a b (fun z hz=>ha z (za6 _ hz)) (fun z hz=>hb z (za6 _ hz));have hx:=ha x (zce ..);have hy:=hb y (zce ..);have e1:(UInt8.ofNat x.toNat<UInt8.ofNat y.toNat)↔x<y:=by rw[UInt8.lt_iff_toNat_lt,zdn,zdn];omega
  have e2:(UInt8.ofNat y.toNat<UInt8.ofNat x.toNat)↔y<x:=by rw[UInt8.lt_iff_toNat_lt,zdn,zdn];omega
  show(if UInt8.ofNat x.toNat<UInt8.ofNat y.toNat then(-1:Int) else if UInt8.ofNat y.toNat<UInt8.ofNat x.toNat then 1 else Lib.compareBytes (Lib.bytesOf a) (Lib.bytesOf b))=(if x<y then -1 else if y<x then 1 else qbn a b);simp only[e1,e2,ih]
theorem xb0s{P:Program}{w:World}{Im:Nat->Prop}{a b:List Int}{va vb:Value}(ha:CRep w Im (.sli .u8 a) va)(hb:CRep w Im (.sli .u8 b) vb)(h1: ∀x∈a,0<=x/\x<=255)(h2: ∀x∈b,0<=x/\x<=255):
  (Extern.BytealgCompare.compare #[va,vb]).run P w=.ok (.int .i64 (qbn a b)) w:=by
 change Sem.run P (do pure (goInt (Extern.BytealgCompare.cmp (<- Extern.Bytes.bytesOf va) (<- Extern.Bytes.bytesOf vb)))) w=_;simp only[Sem.run_bind,Sem.run_pure,xbfj ha,xbfj hb,Result.andThen];rw[Lib.cmp_eq];show Result.ok (Value.int .i64 (Lib.compareBytes (Lib.bytesOf a) (Lib.bytesOf b))) w=_;rw[xbdg a b h1 h2]
theorem qzx(hm:Tryz.prog.follows .mixedOrders=true):Sound Tryz.prog qa8 185 (fun xs obs=>cond (qja xs obs) (SBACompare xs obs).eval none):=by
 intro xs obs out w Im ρ bl vs hs hpre;obtain⟨h1,h2⟩:=qaa hs;unfold qja at h1;split at h1
 ·rename_i a b;simp only[zab] at h1;have h2:some (Out.ret [.cl (.int .i64 (qhe a b))] [])=some out:=h2;cases h2;have hl:vs.length=2:=hpre.reps.1
  match vs,hl,hpre with
  | [va,vb],_,hpre=>
   have ra:CRep w Im (.sli .u8 a) va:=by have:=hpre.reps.2 0 _ _ rfl rfl;cases this;assumption
   have rb:CRep w Im (.sli .u8 b) vb:=by have:=hpre.reps.2 1 _ _ rfl rfl;cases this;assumption
   refine .inr ⟨.int .i64 (qhe a b),w, ?_,[.int .i64 (qhe a b)],Im,ρ,rfl,⟨Fr.refl w bl,hpre.gam,fun j o o' hj=>by cases hj⟩,rfl,fun j c v hj hv=> ?_⟩
   ·rw[run_callFunc_extern (e:=Extern.BytealgCompare.compare) Tryz.func185 rfl rfl rfl (by kernel_rfl)];show Result.andThen ((Extern.BytealgCompare.compare #[va,vb]).run Tryz.prog w) _=_;rw[xb0s ra rb (qal h1.1).2 (qal h1.2).2];unfold qhe;rw[qab];rfl
   ·match j,hj,hv with
    | 0,hj,hv=>cases hj;cases hv;exact .cl _ _ (.int ..)
    | j+1,hj,hv=>cases hj
 ·cases h1
def q2h:Go.Shelf.Ren:=⟨fun _=>162,fun t=>cond (Nat.beq t 25) 5 (cond (Nat.beq t 22) 22 t),fun g=>g⟩
theorem xbe8(hm:Tryz.prog.follows .mixedOrders=true):Lays8.n4 Tryz.prog q2h where
 mixed:=hm
 f4:=⟨Tryz.f162.name,by decide,by kernel_rfl⟩
 t0:=Tryz.underlying0
 a0:=fun w=>by kernel_rfl
 z0:=fun w=>by kernel_rfl
 v0:=fun w=>by kernel_rfl
 t3:=Tryz.underlying3
 a3:=fun w=>by kernel_rfl
 z3:=fun w=>by kernel_rfl
 v3:=fun w=>by kernel_rfl
 t4:=Tryz.underlying4
 a4:=fun w=>by kernel_rfl
 z4:=fun w=>by kernel_rfl
 v4:=fun w=>by kernel_rfl
 t9:=Tryz.underlying9
 a9:=fun w=>by kernel_rfl
 z9:=fun w=>by kernel_rfl
 v9:=fun w=>by kernel_rfl
 t20:=Tryz.underlying20
 a20:=fun w=>by kernel_rfl
 z20:=fun w=>by kernel_rfl
 v20:=fun w=>by kernel_rfl
 t22:=Tryz.underlying22
 a22:=fun w=>by kernel_rfl
 z22:=fun w=>by kernel_rfl
 v22:=fun w=>by kernel_rfl
theorem info5:(Tryz.prog.info? 5).map (fun i=>(i.zero,i.size,i.bytes))=some (some (.int .u8 0),1,1):=by kernel_rfl
theorem xbey{bl:Nat->Prop}{w w':World}{Im:Nat->Prop}{ρ ρ':Nat->Loc}{l:Loc}(h:Gam w.heap.size bl Im w Im ρ [])(hsz:w.heap.size<=w'.heap.size)(hρ:ρ' 0=l)(ho:ORep w' Im ρ' (shOf [(0,⟨.ints .u8 [],false⟩)]) (.ints .u8 []) l)(hl: ∀b x y,l=some (b,x,y)->b<w'.heap.size/\¬Im b/\w.heap.size<=b):
  Gam w.heap.size bl Im w' Im ρ' [(0,⟨.ints .u8 [],false⟩)]:=by
 have one: ∀(p:Nat) (o:Obj),qam ([(0,⟨.ints .u8 [],false⟩)]:Heap) p=some o->p=0/\o=⟨.ints .u8 [],false⟩:=fun p o hp=>by
  simp only[qam] at hp
  cases hb:Nat.beq 0 p with
  | true=>rw[hb] at hp;cases hp;exact⟨(qag.1 hb).symm,rfl⟩
  | false=>rw[hb] at hp;cases hp
 refine⟨fun b hb=>zbd (h.im b hb) hsz,h.i0,fun p o hp=> ?_,fun p q o o' b x y x' y' hp hq _ _ hne=> ?_,fun p o b x y hp hr=> ?_,h.imo⟩
 ·obtain⟨rfl,rfl⟩:=one p o hp;rw[hρ];exact ho
 ·exact absurd ((one p o hp).1.trans (one q o' hq).1.symm) hne
 ·obtain⟨rfl,rfl⟩:=one p o hp;rw[hρ] at hr;obtain⟨h1,h2,h3⟩:=hl b x y hr;exact⟨h1,fun e=>absurd e zb4,fun _=>⟨h2,.inr h3⟩⟩
theorem xbho(hm:Tryz.prog.follows .mixedOrders=true):Sound Tryz.prog qa8 162 (fun xs obs=>cond (qzk xs obs) (SSGrow xs obs).eval none):=by
 intro xs obs out w Im ρ bl vs hs hpre;obtain⟨h1,h2⟩:=qaa hs;unfold qzk at h1;split at h1
 ·rename_i n;have h2:some (Out.ret [.ref 0 0 0 true 1] [some ⟨.ints .u8 qa6,false⟩])=some out:=h2;cases h2;have hn:0<=n/\n<=100000000:=by unfold q1g at h1;rw[qab] at h1;exact of_decide_eq_true h1
  obtain⟨m,rfl⟩: ∃m:Nat,n=m:=⟨n.toNat,by omega⟩;have hl:vs.length=2:=hpre.reps.1
  match vs,hl,hpre with
  | [va,vb],_,hpre=>
   have ra:=hpre.reps.2 0 _ _ rfl rfl;have rb:=hpre.reps.2 1 _ _ rfl rfl;cases ra;obtain rfl:vb=.int .i64 m:=by
    cases rb with
    | cl _ _ h=>cases h;rfl
   refine .inl ⟨?_, ?_⟩
   ·have hn': ¬Tryz.f162.name= "runtime.NumGoroutine" :=of_decide_eq_true (by kernel_rfl);obtain⟨c,hc⟩: ∃c,Tryz.f162.body=some c:=⟨_,rfl⟩;simp[callFunc,Tryz.func162,hn',hc]
   ·have e:qa6=[]:=qab _;rw[e];have hg:Gam w.heap.size bl Im w Im ρ []:=hpre.gam;by_cases hz:m=0
    ·subst hz;refine(Any8.slices_Grow_room (xbe8 hm) none 0 0 0 w (zas _) (by omega) (by omega) (zas _)).mono fun e w' ⟨he,hw⟩=> ?_;subst he;subst hw;refine⟨[.slice none 0 0],Im,fun _=>none,rfl,⟨Fr.refl _ bl,xbey hg (zas _) rfl ⟨rfl,rfl,trivial⟩ (fun b x y h=>by cases h),fun j o o' hj=>by cases hj⟩,rfl,fun j c v hj hv=> ?_⟩
     match j,hj,hv with
     | 0,hj,hv=>cases hj;cases hv;exact .refV 0 ⟨0,1,false⟩ true 1 rfl rfl rfl rfl
     | j+1,hj,hv=>cases hj
    ·obtain⟨i0,hi0,hi⟩:=zam.1 info5;simp only[za4] at hi;obtain⟨hi1,hi2,hi3⟩:=hi;refine(Any8.slices_Grow_grow (xbe8 hm) i0 (.int .u8 0) hi0 hi1 (by omega) none 0 0 m [] w (zas _) (by omega) (by rw[hi3];omega) (by omega) (by simp) (fun _=>rfl) (fun a h=>by cases h)).mono fun e w' ⟨he,hw⟩=> ?_;have hG:0+m<=grownCap w (0+m) 0 (q2h.t 25):=grownCap_ge w _ _ _;generalize grownCap w (0+m) 0 (q2h.t 25)=G at*;subst he;generalize hcs:([]:List Value).toArray++Builtin.zeroCells (Value.int .u8 0).cells (0+m - 0)++Builtin.zeroCells (Value.int .u8 0).cells (G - (0+m))=cs at hw;have hsz:cs.size=G:=by rw[<- hcs,zdh,zdh,size_zeroCells,size_zeroCells];simp[Value.cells];omega
     have hheap:w'.heap=w.heap.push (.cells cs (q2h.t 25) (0,0)):=by rw[hw];rfl
     have hb:w'.heap[w.heap.size]? =some (.cells cs (q2h.t 25) (0,0)):=by rw[hheap];simp
     have hFr:Fr w bl w':=by refine⟨by rw[hw];rfl,by rw[hw];rfl,by rw[hw];rfl,by rw[hheap,zdk];omega,fun b hb' _=>by rw[hheap,zdj,if_neg (by omega)]⟩
     refine⟨[.slice (some ⟨w.heap.size,0,none⟩) 0 G],Im,fun _=>some (w.heap.size,0,G),rfl,⟨hFr,xbey hg hFr.size rfl ⟨trivial,by rw[hheap];simp,zbc _,fun i hi=>⟨?_, ?_⟩,fun j c hj=>by simp[qai] at hj⟩ (fun b x y h=> ?_),fun j o o' hj=>by cases hj⟩,rfl,fun j c v hj hv=> ?_⟩
     ·simp[World.cell?,hb,hsz,hi]
     ·simp[World.frozen?,hb]
     ·cases h;exact⟨by rw[hheap];simp,fun hI=>Nat.lt_irrefl _ (hg.im _ hI),zas _⟩
     ·match j,hj,hv with
      | 0,hj,hv=>
       cases hj;cases hv;exact .ref 0 0 0 true 1 ⟨0,1,false⟩ w.heap.size 0 G ⟨w.heap.size,0,none⟩ G rfl rfl rfl (zbc _) (zas _) (fun _=>rfl) (fun _=>rfl) (by omega)
      | j+1,hj,hv=>cases hj
 ·cases h1
def qts:Go.Shelf.Ren:=⟨fun _=>79,fun t=>cond (Nat.beq t 25) 68 (cond (Nat.beq t 22) 40 t),fun g=>g⟩
theorem q7e(hm:Tryz.prog.follows .mixedOrders=true):Lays8.n4 Tryz.prog qts where
 mixed:=hm
 f4:=⟨Tryz.f79.name,by decide,by kernel_rfl⟩
 t0:=Tryz.underlying0
 a0:=fun w=>by kernel_rfl
 z0:=fun w=>by kernel_rfl
 v0:=fun w=>by kernel_rfl
 t3:=Tryz.underlying3
 a3:=fun w=>by kernel_rfl
 z3:=fun w=>by kernel_rfl
 v3:=fun w=>by kernel_rfl
 t4:=Tryz.underlying4
 a4:=fun w=>by kernel_rfl
 z4:=fun w=>by kernel_rfl
 v4:=fun w=>by kernel_rfl
 t9:=Tryz.underlying9
 a9:=fun w=>by kernel_rfl
 z9:=fun w=>by kernel_rfl
 v9:=fun w=>by kernel_rfl
 t20:=Tryz.underlying20
 a20:=fun w=>by kernel_rfl
 z20:=fun w=>by kernel_rfl
 v20:=fun w=>by kernel_rfl
 t22:=Tryz.underlying40
 a22:=fun w=>by kernel_rfl
 z22:=fun w=>by kernel_rfl
 v22:=fun w=>by kernel_rfl
theorem xb37:(Tryz.prog.info? 68).map (fun i=>(i.zero,i.size,i.bytes))=some (some (.agg #[.int .i64 0,.slice none 0 0,.slice none 0 0]),3,56):=by kernel_rfl
theorem q63{bl:Nat->Prop}{w w':World}{Im:Nat->Prop}{ρ ρ':Nat->Loc}{l:Loc}(h:Gam w.heap.size bl Im w Im ρ [])(hsz:w.heap.size<=w'.heap.size)(hρ:ρ' 0=l)(ho:ORep w' Im ρ' (shOf [(0,⟨.gen 3 [],false⟩)]) (.gen 3 []) l)(hl: ∀b x y,l=some (b,x,y)->b<w'.heap.size/\¬Im b/\w.heap.size<=b):
  Gam w.heap.size bl Im w' Im ρ' [(0,⟨.gen 3 [],false⟩)]:=by
 have one: ∀(p:Nat) (o:Obj),qam ([(0,⟨.gen 3 [],false⟩)]:Heap) p=some o->p=0/\o=⟨.gen 3 [],false⟩:=fun p o hp=>by
  simp only[qam] at hp
  cases hb:Nat.beq 0 p with
  | true=>rw[hb] at hp;cases hp;exact⟨(qag.1 hb).symm,rfl⟩
  | false=>rw[hb] at hp;cases hp
 refine⟨fun b hb=>zbd (h.im b hb) hsz,h.i0,fun p o hp=> ?_,fun p q o o' b x y x' y' hp hq _ _ hne=> ?_,fun p o b x y hp hr=> ?_,h.imo⟩
 ·obtain⟨rfl,rfl⟩:=one p o hp;rw[hρ];exact ho
 ·exact absurd ((one p o hp).1.trans (one q o' hq).1.symm) hne
 ·obtain⟨rfl,rfl⟩:=one p o hp;rw[hρ] at hr;obtain⟨h1,h2,h3⟩:=hl b x y hr;exact⟨h1,fun e=>absurd e zb4,fun _=>⟨h2,.inr h3⟩⟩
theorem xba0(hm:Tryz.prog.follows .mixedOrders=true):Sound Tryz.prog qa8 79 (fun xs obs=>cond (qrf xs obs) (xbcq xs obs).eval none):=by
 intro xs obs out w Im ρ bl vs hs hpre;obtain⟨h1,h2⟩:=qaa hs;unfold qrf at h1;split at h1
 ·rename_i n;have h2:some (Out.ret [.ref 0 0 0 true 3] [some ⟨.gen 3 qcg,false⟩])=some out:=h2;cases h2;have hn:0<=n/\n<=100000000:=by unfold q1g at h1;rw[qab] at h1;exact of_decide_eq_true h1
  obtain⟨m,rfl⟩: ∃m:Nat,n=m:=⟨n.toNat,by omega⟩;have hl:vs.length=2:=hpre.reps.1
  match vs,hl,hpre with
  | [va,vb],_,hpre=>
   have ra:=hpre.reps.2 0 _ _ rfl rfl;have rb:=hpre.reps.2 1 _ _ rfl rfl;cases ra;obtain rfl:vb=.int .i64 m:=by
    cases rb with
    | cl _ _ h=>cases h;rfl
   refine .inl ⟨?_, ?_⟩
   ·have hn': ¬Tryz.f79.name= "runtime.NumGoroutine" :=of_decide_eq_true (by kernel_rfl);obtain⟨c,hc⟩: ∃c,Tryz.f79.body=some c:=⟨_,rfl⟩;simp[callFunc,Tryz.func79,hn',hc]
   ·have e:qcg=[]:=qab _;rw[e];have hg:Gam w.heap.size bl Im w Im ρ []:=hpre.gam;by_cases hz:m=0
    ·subst hz;refine(Any8.slices_Grow_room (q7e hm) none 0 0 0 w (zas _) (by omega) (by omega) (zas _)).mono fun e w' ⟨he,hw⟩=> ?_;subst he;subst hw;refine⟨[.slice none 0 0],Im,fun _=>none,rfl,⟨Fr.refl _ bl,q63 hg (zas _) rfl ⟨rfl,rfl,fun c hc=>nomatch hc⟩ (fun b x y h=>by cases h),fun j o o' hj=>by cases hj⟩,rfl,fun j c v hj hv=> ?_⟩
     match j,hj,hv with
     | 0,hj,hv=>cases hj;cases hv;exact .refV 0 ⟨0,3,false⟩ true 3 rfl rfl rfl rfl
     | j+1,hj,hv=>cases hj
    ·obtain⟨i0,hi0,hi⟩:=zam.1 xb37;simp only[za4] at hi;obtain⟨hi1,hi2,hi3⟩:=hi;refine(Any8.slices_Grow_grow (q7e hm) i0 (.agg #[.int .i64 0,.slice none 0 0,.slice none 0 0]) hi0 hi1 (by omega) none 0 0 m [] w (zas _) (by omega) (by rw[hi3];omega) (by omega) (by simp) (fun _=>rfl) (fun a h=>by cases h)).mono fun e w' ⟨he,hw⟩=> ?_;have hG:0+m<=grownCap w (0+m) 0 (qts.t 25):=grownCap_ge w _ _ _;generalize grownCap w (0+m) 0 (qts.t 25)=G at*;subst he;generalize hcs:([]:List Value).toArray++Builtin.zeroCells (Value.agg #[.int .i64 0,.slice none 0 0,.slice none 0 0]).cells (0+m - 0)++Builtin.zeroCells (Value.agg #[.int .i64 0,.slice none 0 0,.slice none 0 0]).cells (G - (0+m))=cs at hw;have hsz:cs.size=G*3:=by rw[<- hcs,zdh,zdh,size_zeroCells,size_zeroCells];simp[Value.cells];omega
     have hheap:w'.heap=w.heap.push (.cells cs (qts.t 25) (0,0)):=by rw[hw];rfl
     have hb:w'.heap[w.heap.size]? =some (.cells cs (qts.t 25) (0,0)):=by rw[hheap];simp
     have hFr:Fr w bl w':=by refine⟨by rw[hw];rfl,by rw[hw];rfl,by rw[hw];rfl,by rw[hheap,zdk];omega,fun b hb' _=>by rw[hheap,zdj,if_neg (by omega)]⟩
     refine⟨[.slice (some ⟨w.heap.size,0,none⟩) 0 G],Im,fun _=>some (w.heap.size,0,G*3),rfl,⟨hFr,q63 hg hFr.size rfl ⟨(fun c hc=>nomatch hc),by rw[hheap];simp,zbc _,fun i hi=>⟨?_, ?_⟩,fun j c hj=>by simp[qai] at hj⟩ (fun b x y h=> ?_),fun j o o' hj=>by cases hj⟩,rfl,fun j c v hj hv=> ?_⟩
     ·simp[World.cell?,hb,hsz,hi]
     ·simp[World.frozen?,hb]
     ·cases h;exact⟨by rw[hheap];simp,fun hI=>Nat.lt_irrefl _ (hg.im _ hI),zas _⟩
     ·match j,hj,hv with
      | 0,hj,hv=>
       cases hj;cases hv;exact .ref 0 0 0 true 3 ⟨0,3,false⟩ w.heap.size 0 (G*3) ⟨w.heap.size,0,none⟩ G rfl rfl rfl (zbc _) (zas _) (fun _=>rfl) (fun _=>rfl) (by omega)
      | j+1,hj,hv=>cases hj
 ·cases h1
theorem qfm{P:Program}{glob:Nat->Option CV}{g:FuncId}{p:List V->List Obj->Bool}{q:Nat->List V->List Obj->Bool}{S:List V->List Obj->Tree}(h: ∀rk,Sound P glob g (fun xs obs=>cond (q rk xs obs) (S xs obs).eval none))(hp: ∀xs obs,p xs obs=true->∃rk,q rk xs obs=true):
  Sound P glob g (fun xs obs=>cond (p xs obs) (S xs obs).eval none):=by
 intro xs obs out w Im ρ bl vs hs;obtain⟨h1,h2⟩:=qaa hs;obtain⟨rk,hq⟩:=hp xs obs h1;exact h rk xs obs out w Im ρ bl vs (by show cond (q rk xs obs) _ _=_;rw[hq];exact h2)
theorem qik{P:Program}{glob:Nat->Option CV}{g:FuncId}{p:List V->List Obj->Bool}{S:List V->List Obj->Tree}(h: ∀xs obs, ¬p xs obs=true):Sound P glob g (fun xs obs=>cond (p xs obs) (S xs obs).eval none):=by intro xs obs out w Im ρ bl vs hs;exact absurd (qaa hs).1 (h xs obs)
theorem qt4{P:Program}{glob:Nat->Option CV}{g:FuncId}{p:List V->List Obj->Bool}:Sound P glob g (fun xs obs=>cond (p xs obs) ((fun _ _=>Tree.fail:List V->List Obj->Tree) xs obs).eval none):=by intro xs obs out w Im ρ bl vs hs;cases(qaa hs).2
abbrev MX:Prop:=Tryz.prog.follows .mixedOrders=true
abbrev TK(B:Nat->Ct):Prop:=MX->xbin Tryz.prog qa8 B
abbrev OKS(g:FuncId)(p:List V->List Obj->Bool)(S:List V->List Obj->Tree):Prop:=Sound Tryz.prog qa8 g (fun xs obs=>cond (p xs obs) (S xs obs).eval none)
theorem xbtx:TK BDigits:=fun _=>tab0
theorem xb00:TK BDLeap:=tc0 EDigits KDigits xbtx Tryz.func172 fun xs obs y h hp=>by unfold KDigits at h;split at h<;>cases h;exact tr (xbyu _ hp)
theorem xb0x:TK BDDays:=tc0 EDLeap KDLeap xb00 Tryz.func195 fun xs obs y h hp=>by unfold KDLeap at h;split at h<;>cases h;rename_i d0 d1 d2 d3 d4 d5;exact tr (xb4i d0 d1 d2 d3 d4 d5 hp)
theorem xb56:TK BDFit:=tc0 EDDays KDDays xb0x Tryz.func191 fun xs obs y h hp=>by unfold KDDays at h;split at h<;>cases h;rename_i d0 d1 d2 d3 d4 d5;exact tr (xb4g d0 d1 d2 d3 d4 d5 hp)
theorem xb04:TK BDSecs:=tc0 EDFit KDFit xb56 Tryz.func173 fun xs obs y h hp=>by unfold KDFit at h;split at h<;>cases h;exact tr (xb8b _ _ _ _ _ _ hp)
theorem xb14:TK BSRead:=tc0 EDSecs KDSecs xb04 Tryz.func174 fun xs obs y h hp=>by unfold KDSecs at h;split at h<;>cases h;exact tr (xb4k _ _ _ _ _ _ hp)
theorem xb1s:TK BRLeap:=tc0 ESRead KSRead xb14 Tryz.func136 fun xs obs y h hp=>by unfold KSRead at h;split at h<;>cases h;exact tr (xb5m _ hp)
theorem xb1p:TK BRDays:=tc0 ERLeap KRLeap xb1s Tryz.func193 fun xs obs y h hp=>by unfold KRLeap at h;split at h<;>cases h;exact tr (xb5b _ hp)
theorem xbuf:TK BRYears:=tc0 ERDays KRDays xb1p Tryz.func181 fun xs obs y h hp=>by unfold KRDays at h;split at h<;>cases h;exact tr (xb47 _ _ hp)
theorem xblo:TK BRNumber:=tc0 ERYears KRYears xbuf Tryz.func182 fun xs obs y h hp=>by unfold KRYears at h;split at h<;>cases h;exact tr (xbzh _ hp)
theorem xb1u:TK BRRead:=tcT ERNumber KRNumber xblo Tryz.func180 [(true,3)] ⟨⟨_,rfl,q0k⟩,trivial⟩ fun xs obs y h hp=>by unfold KRNumber at h;split at h<;>cases h;exact tr (xbsx _ hp)
theorem xbts:TK BDBoxed:=tcT ERRead KRRead xb1u Tryz.func148 [(true,13)] ⟨⟨_,rfl,q4d⟩,trivial⟩ fun xs obs y h hp=>by unfold KRRead at h;split at h<;>cases h;exact tr (xb5d _ hp)
theorem xbua:TK BRBoxed:=tc0 EDBoxed KDBoxed xbts Tryz.func50 fun xs obs y h hp=>by unfold KDBoxed at h;split at h<;>cases h;exact tr (xbyl _ hp)
theorem xbtu:TK BDKnown:=tc0 ERBoxed KRBoxed xbua Tryz.func103 fun xs obs y h hp=>by unfold KRBoxed at h;split at h<;>cases h;exact tr (xbza _ hp)
theorem xblq:TK BRTagged:=tc0 EDKnown KDKnown xbtu Tryz.func87 fun xs obs y h hp=>by unfold KDKnown at h;split at h<;>cases h;exact tr (xbyo _ hp)
theorem xbg0:TK qwj:=tc0 ERTagged KRTagged xblq Tryz.func101 fun xs obs y h hp=>by unfold KRTagged at h;split at h<;>cases h;exact tr (xbs0 _ hp)
theorem xbk8:TK BDNumber:=tc0 xbit qm8 xbg0 Tryz.func121 fun xs obs y h hp=>by unfold qm8 at h;split at h<;>cases h;exact tr (xbkc _ hp)
theorem xbll:TK q3c:=tc0 EDNumber KDNumber xbk8 Tryz.func132 fun xs obs y h hp=>by unfold KDNumber at h;split at h<;>cases h;exact tr (xbsg _ hp)
theorem xbtw:TK BDStrip:=tc0 xbpq q3l xbll Tryz.func145 fun xs obs y h hp=>by unfold q3l at h;split at h<;>cases h;exact tr (xbsu _ hp)
theorem xbg7:TK qwm:=tc0 EDStrip KDStrip xbtw Tryz.func133 fun xs obs y h hp=>by unfold KDStrip at h;split at h<;>cases h;exact tr (xbyr _ hp)
theorem xb1o:TK BRCont:=tc0 xbiw qwu xbg7 Tryz.func146 fun xs obs y h hp=>by unfold qwu at h;split at h<;>cases h;exact tr (xbkk _ hp)
theorem xb1v:TK BRRune:=tc0 ERCont KRCont xb1o Tryz.func192 fun xs obs y h hp=>by unfold KRCont at h;split at h<;>cases h;exact tr (xb46 _ _ hp)
theorem xb1w:TK BRUtf8:=tcT ERRune KRRune xb1v Tryz.func179 [(false,10),(false,8)] ⟨⟨_,rfl,q3f⟩,⟨_,rfl,q8z⟩,trivial⟩ fun xs obs y h hp=>by unfold KRRune at h;split at h<;>cases h;exact tr (xb5e _ _ hp)
theorem xb6e:TK BOFit:=tcT ERUtf8 KRUtf8 xb1w Tryz.func147 [(true,2)] ⟨⟨_,rfl,q89⟩,trivial⟩ fun xs obs y h hp=>by unfold KRUtf8 at h;split at h<;>cases h;exact tr (xb5f _ hp)
theorem xb1n:TK BR2Fit:=tc0 EOFit KOFit xb6e Tryz.func170 fun xs obs y h hp=>by unfold KOFit at h;split at h<;>cases h;exact tr (xb8k _ hp)
theorem xblg:TK BR2First:=tc0 ER2Fit KR2Fit xb1n Tryz.func150 fun xs obs y h hp=>by unfold KR2Fit at h;split at h<;>cases h;exact tr (xb45 _ hp)
theorem xbld:TK BONumber:=tc0 ER2First KR2First xblg Tryz.func149 fun xs obs y h hp=>by unfold KR2First at h;split at h<;>cases h;exact tr (xbsp _ hp)
theorem q2m:TK BONumbers:=tcT EONumber KONumber xbld Tryz.func190 [(true,3)] ⟨⟨_,rfl,q0d⟩,trivial⟩ fun xs obs y h hp=>by unfold KONumber at h;split at h<;>cases h;exact tr (xbsm _ hp)
theorem q2s(hm:MX):OKc Tryz.prog qa8 169 KONumbers:=
 rs0 (E:=EONumbers) (N:=40) (keep:=true) (q2m hm) hm Tryz.func169 (by kernel_rfl) fun xs obs y h hp=>by unfold KONumbers at h;split at h<;>cases h;exact tr (xbkg _ hp)
theorem xboh:TK BARoot:=fun hm=>tabC (K:=KONumbers) (q2s hm) (q2m hm)
theorem xbhi(hm:MX):OKc Tryz.prog qa8 176 KARoot:=
 rs0 (E:=EARoot) (N:=40) (keep:=true) (xboh hm) hm Tryz.func176 (by kernel_rfl) fun xs obs y h hp=>by
  unfold KARoot at h;split at h
  ·cases h;exact tr (xbr7 hp)
  ·cases h;exact tr (xbr8 hp)
  ·cases h;exact tr (xbr9 hp)
  ·cases h;exact tr (xbsa hp)
  ·cases h;exact tr (xbsb hp)
  ·cases h;exact tr (xbsc hp)
  ·cases h
theorem qzu:TK BOParse:=fun hm=>tabC (K:=KARoot) (xbhi hm) (xboh hm)
theorem xbut(hm:MX): ∀xs obs ys,xbgg xs obs=true->QONums xs obs=some ys->xbvs Tryz.prog qa8 189 xs obs ys:=by
 intro xs obs ys hp h;unfold QONums at h;split at h
 ·rename_i b;cases h;have hE: ∀(l:Nat) (g:FuncId),Sound Tryz.prog (EONums l).glob g (ctr (EONums l) g):=fun l g=>(qan (qzu hm 190) qcc);refine q8l (N:=40) EONums hE hm (fun _=>rfl) (fun _=>rfl) (fun _=>rfl) Tryz.func189 rfl xbfo (fun _=>rfl) (by decide) rfl fun l=> ?_;obtain⟨out,h1,h2⟩:=xb42 l b hp;exact⟨out,(xbjr l b).trans h1,h2⟩
 ·cases h
theorem xbu1(hm:MX):qeo Tryz.prog EOParse:=by
 intro gf xs obs ys hp h;have h:(cond (Nat.beq gf 189) QONums (fun _ _=>none)) xs obs=some ys:=h
 cases hb:Nat.beq gf 189 with
 | false=>rw[hb] at h;cases h
 | true=>
  obtain rfl:=qag.1 hb;exact⟨xbut hm xs obs ys hp h,_,Tryz.func189,rfl,rfl⟩
theorem xbay(hm:MX):OKS 134 qzj SOParse:=
 qca (E:=EOParse) (N:=40) (keep:=false) hm (fun g=>(qan (qzu hm 169) (qan (qzu hm 170) qt4))) Tryz.func134 rfl rfl xbaa rfl (hsq:=xbu1 hm) (hS:=by
  intro xs obs out hp h;unfold SOParse at h;split at h
  ·refine⟨by simp[Tryz.f134], ?_⟩;rw[xbea];exact(xby0 _ hp).trans h
  ·cases h)
theorem xblh:TK BR2Parse:=fun hm=>tabC (K:=ofS qzj SOParse) (xbay hm) (qzu hm)
theorem xbt5:TK BR1Same:=tcT ER2Parse KR2Parse xblh Tryz.func107 [(true,5)] ⟨⟨_,rfl,q0f⟩,trivial⟩ fun xs obs y h hp=>by unfold KR2Parse at h;split at h<;>cases h;exact tr (xbsq _ hp)
theorem xbug:TK BSClone:=tcT ER1Same KR1Same xbt5 Tryz.func14 [(true,4)] ⟨⟨_,rfl,q35⟩,trivial⟩ fun xs obs y h hp=>by unfold KR1Same at h;split at h<;>cases h;exact tr (xby5 _ _ hp)
theorem xb1m:TK BR1Num:=tc0 ESClone KSClone xbug Tryz.func91 fun xs obs y h hp=>by unfold KSClone at h;split at h<;>cases h;exact tr (xbzi _ hp)
theorem xblm:TK BRLength:=tcT ER1Num KR1Num xb1m Tryz.func144 [(true,3)] ⟨⟨_,rfl,q87⟩,trivial⟩ fun xs obs y h hp=>by unfold KR1Num at h;split at h<;>cases h;exact tr (xb44 _ hp)
theorem xbt7:TK BR4Less:=tc0 ERLength KRLength xblm Tryz.func102 fun xs obs y h hp=>by unfold KRLength at h;split at h<;>cases h;exact tr (xbsv _ hp)
theorem xb15:TK BUWord:=tcT ER4Less KR4Less xbt7 Tryz.func111 [(true,2)] ⟨⟨_,rfl,q37⟩,trivial⟩ fun xs obs y h hp=>by unfold KR4Less at h;split at h<;>cases h;exact tr (xby7 _ _ hp)
theorem xbui:TK BUValid:=tc0 EUWord KUWord xb15 Tryz.func171 fun xs obs y h hp=>by unfold KUWord at h;split at h<;>cases h;exact tr (xb5n _ hp)
theorem xb0z:TK BDFits:=tcT EUValid KUValid xbui Tryz.func135 [(true,10),(true,2)] ⟨⟨_,rfl,q0p⟩,⟨_,rfl,q4h⟩,trivial⟩ fun xs obs y h hp=>by unfold KUValid at h;split at h<;>cases h;exact tr (xbzj _ hp)
theorem xb1r:TK BRFits:=tc0 EDFits KDFits xb0z Tryz.func90 fun xs obs y h hp=>by unfold KDFits at h;split at h<;>cases h;exact tr (xbyn _ _ hp)
theorem xbg5:TK BR4Sorted:=tc0 ERFits KRFits xb1r Tryz.func104 fun xs obs y h hp=>by unfold KRFits at h;split at h<;>cases h;exact tr (xb49 _ _ hp)
theorem xbau:TK BBACompare:=tcT ER4Sorted KR4Sorted xbg5 Tryz.func105 [(true,2)] ⟨⟨_,rfl,qw8⟩,trivial⟩ fun xs obs y h hp=>by unfold KR4Sorted at h;split at h<;>cases h;exact tr (xbki _ hp)
theorem xbgz:TK BBCompare:=fun hm=>tabC (K:=ofS qja SBACompare) (qzx hm) (xbau hm)
theorem xb1j:TK BOLess:=tc0 EBCompare KBCompare xbgz Tryz.func161 fun xs obs y h hp=>by unfold KBCompare at h;split at h<;>cases h;exact tr (xbkb _ _ hp)
theorem xbt3:TK BOSteps:=tc0 EOLess KOLess xb1j Tryz.func160 fun xs obs y h hp=>by unfold KOLess at h;split at h<;>cases h;exact tr (xb41 _ _ hp)
theorem xble:TK BOSorted:=tcT EOSteps KOSteps xbt3 Tryz.func159 [(true,2)] ⟨⟨_,rfl,q3x⟩,trivial⟩ fun xs obs y h hp=>by unfold KOSteps at h;split at h<;>cases h;exact tr (xby3 _ hp)
theorem qpr:TK xbmb:=tc0 EOSorted KOSorted xble Tryz.func123 fun xs obs y h hp=>by unfold KOSorted at h;split at h<;>cases h;exact tr (xbsn _ hp)
theorem qt2(hm:MX): ∀rk,OKS 59 (qtq rk) qu2
 | 0=>qik fun xs obs h=>by
  unfold qtq at h;split at h
  ·simp at h
  ·cases h
 | rk+1=>qca (E:=q58 rk) (N:=40) (keep:=false) hm (fun g=>(qan (qt2 hm rk) (qan (qpr hm 101) (qan (qpr hm 102) (qan (qpr hm 103) (qan (qpr hm 104) (qan (qpr hm 105) qcc))))))) Tryz.func59 rfl rfl (xbac rk) rfl (by
  intro xs obs out hp h;unfold qu2 at h;split at h
  ·refine⟨by simp[Tryz.f59], ?_⟩;rw[xbeo];exact(xbze rk _ _ hp).trans h
  ·cases h)
theorem xbaz(hm:MX):OKS 59 qre qu2:=
 qfm (fun rk=>qt2 hm rk) fun xs obs h=>by
  unfold qre at h;split at h
  ·rename_i b deep;simp only[zab] at h;refine⟨deep.toNat+1, ?_⟩;show(qad b&&(qc2 deep&&decide (deep.toNat<deep.toNat+1)))=true;simp only[zab,decide_eq_true_eq];exact⟨h.1,h.2,by omega⟩
  ·cases h
theorem xbud:TK BRParse:=fun hm=>tabC (K:=ofS qre qu2) (xbaz hm) (qpr hm)
theorem xb01:TK BDMust:=tc0 ERParse KRParse xbud Tryz.func30 fun xs obs y h hp=>by unfold KRParse at h;split at h<;>cases h;exact tr (xbzd _ hp)
theorem xb02:TK BDNext:=tc0 EDMust KDMust xb01 Tryz.func49 fun xs obs y h hp=>by
  unfold KDMust at h;split at h
  ·cases h;rename_i e;exact tr (xbse e hp)
  ·cases h;exact tr (xbsf _ hp)
  ·cases h
theorem xbk7:TK BDLength:=tc0 EDNext KDNext xb02 Tryz.func86 fun xs obs y h hp=>by unfold KDNext at h;split at h<;>cases h;exact tr (xb4j _ _ hp)
theorem qho:TK BDValue:=tcT EDLength KDLength xbk7 Tryz.func88 [(true,7)] ⟨⟨_,rfl,q0c⟩,trivial⟩ fun xs obs y h hp=>by unfold KDLength at h;split at h<;>cases h;exact tr (xbsd _ _ hp)
theorem qt0(hm:MX)(rk:Nat)(hV:OKS 48 (qks rk) SDValue):OKS 89 (qtp rk) SDParts:=
 qca (E:=EDParts rk) (N:=40) (keep:=false) hm (fun g=>(qan (hV) (qan (qho hm 49) (qan (qho hm 123) qcc)))) Tryz.func89 rfl rfl (q97 rk) rfl (by
  intro xs obs out hp h;unfold SDParts at h;split at h
  ·refine⟨by simp[Tryz.f89], ?_⟩;rw[xbd0];exact(xbyq rk _ _ _ _ hp).trans h
  ·cases h)
theorem q5r(hm:MX)(rk:Nat)(hP:OKS 89 (qtp rk) SDParts):OKS 48 (qks (rk+1)) SDValue:=
 qca (E:=EDValue rk) (N:=40) (keep:=false) hm (fun g=>(qan (qho hm 49) (qan (qho hm 50) (qan (qho hm 86) (qan (qho hm 87) (qan (qho hm 88) (qan (hP) (qan (qho hm 90) (qan (qho hm 91) qcc))))))))) Tryz.func48 rfl rfl (q98 rk) rfl (by
  intro xs obs out hp h;unfold SDValue at h;split at h
  ·refine⟨by simp[Tryz.f48], ?_⟩;rw[xbd1];exact(xbys rk _ _ hp).trans h
  ·cases h)
theorem xbhn(hm:MX): ∀rk,OKS 48 (qks rk) SDValue
 | 0=>qik fun xs obs h=>by
  unfold qks at h;split at h
  ·simp at h
  ·cases h
 | rk+1=>q5r hm rk (qt0 hm rk (xbhn hm rk))
theorem qv9(hm:MX):OKS 48 qob SDValue:=
 qfm (fun rk=>xbhn hm rk) fun xs obs h=>by
  unfold qob at h;split at h
  ·rename_i l d;simp only[zab] at h;refine⟨d.toNat+1, ?_⟩;show(qad l&&(qc2 d&&decide (d.toNat<d.toNat+1)))=true;simp only[zab,decide_eq_true_eq];exact⟨h.1,h.2,by omega⟩
  ·cases h
theorem xbax(hm:MX):OKS 89 qrd SDParts:=
 qfm (fun rk=>qt0 hm rk (xbhn hm rk)) fun xs obs h=>by
  unfold qrd at h;split at h
  ·rename_i tag b l d;simp only[zab,decide_eq_true_eq] at h;refine⟨d.toNat, ?_⟩;show(qad b&&(qc2 d&&decide (0<d/\d.toNat<d.toNat+1)))=true;simp only[zab,decide_eq_true_eq];exact⟨h.1,h.2.1,h.2.2,by omega⟩
  ·cases h
theorem xbtv:TK BDParts:=fun hm=>tabC (K:=ofS qob SDValue) (qv9 hm) (qho hm)
theorem xbg1:TK BDParse:=fun hm=>tabC (K:=ofS qrd SDParts) (xbax hm) (xbtv hm)
theorem xbi8(hm:MX):DSound Tryz.prog qa8 47 (fun m xs obs=>cond (qtn m xs obs) (DDCatch m xs obs) none):=by
 have hE: ∀g,Sound Tryz.prog EDCatch.glob g (ctr EDCatch g):=fun g=>qcc;refine xbk3 (E:=EDCatch) (N:=40) hE (qt5 rfl) rfl (qnh hE hm) rfl Tryz.func47 q95 rfl ?_;intro m xs obs out h;obtain⟨hp,h⟩:=qaa h;unfold DDCatch at h;split at h
 ·refine⟨by simp[Tryz.f47], ?_⟩;rw[q4y];exact h
 ·refine⟨by simp[Tryz.f47], ?_⟩;rw[q4z];exact h
 ·refine⟨by simp[Tryz.f47], ?_⟩;rw[q40];exact h
 ·cases h
theorem xbaw(hm:MX):OKS 23 qzi SDParse:=by
 have hE: ∀g,Sound Tryz.prog EDParse.glob g (ctr EDParse g):=fun g=>(qan (qv9 hm) (qan (xbg1 hm 49) qcc));refine q9g (E:=EDParse) (D:=DEDParse) (N:=40) (keep:=false) hE (qt5 rfl) (qnh hE hm) (fun g=> ?_) (fun g m xs obs out h=> ?_) rfl Tryz.func23 rfl rfl rfl q96 rfl (fun xs obs out h=> ?_)
 ·show DSound Tryz.prog qa8 g fun m xs obs=>cond ((cond (Nat.beq g 47) qtn (fun _ _ _=>false)) m xs obs) ((cond (Nat.beq g 47) DDCatch (fun _ _ _=>none)) m xs obs) none
  cases hb:Nat.beq g 47 with
  | true=>obtain rfl:=qag.1 hb;exact xbi8 hm
  | false=>intro m xs obs out w Im ρ bl vs u h;cases h
 ·have h:(cond (Nat.beq g 47) DDCatch (fun _ _ _=>none)) m xs obs=some out:=h
  cases hb:Nat.beq g 47 with
  | true=>obtain rfl:=qag.1 hb;exact⟨_,Tryz.func47,rfl,rfl⟩
  | false=>rw[hb] at h;cases h
 ·obtain⟨hp,h⟩:=qaa h;unfold SDParse at h;split at h
  ·refine⟨by simp[Tryz.f23], ?_⟩;rw[xbdy];exact(xbyp _ hp).trans h
  ·cases h
theorem q2l:TK BDSize:=fun hm=>tabC (K:=ofS qzi SDParse) (xbaw hm) (xbg1 hm)
theorem qwc(hm:MX): ∀rk,OKS 73 (ql0 rk) SDSize
 | 0=>qik fun xs obs h=>by
  unfold ql0 at h;split at h
  ·simp only[zab] at h;have:=(qld h.1).1;simp[isTf] at this
  ·cases h
 | rk+1=>qca (E:=EDSize rk) (N:=40) (keep:=false) hm (fun g=>(qan (q2l hm 50) (qan (qwc hm rk) (qan (q2l hm 87) (qan (q2l hm 90) (qan (q2l hm 121) qcc)))))) Tryz.func73 rfl rfl (xbfn rk) rfl (by
  intro xs obs out hq h;have hp:ql0 (rk+1) xs obs=true:=hq;have hp0:ql0 (rk+1) xs obs=true:=hq;clear hq;unfold ql0 at hp;split at hp
  ·rename_i a n
   try simp only[zab] at hp
   have ha:=(qld hp.1).1;obtain⟨_,ta,ba,ka,_,rfl,_⟩:=qdk ha;refine⟨by simp[Tryz.f73], ?_⟩;rw[xbjn];exact(xb4l rk ta ba ka n hp0).trans h
  ·cases hp)
theorem q2r(hm:MX):OKS 73 qto SDSize:=
 qfm (fun rk=>qwc hm rk) fun xs obs h=>by
  unfold qto at h;split at h
  ·rename_i a n;simp only[zab] at h;obtain⟨n',hn,hb⟩:=qdp h.1;refine⟨n', ?_⟩;show(isSr n' a&&qc2 n)=true;rw[q68 hn hb,h.2];rfl
  ·cases h
theorem xb03:TK BDPut:=fun hm=>tabC (K:=ofS qto SDSize) (q2r hm) (q2l hm)
theorem xblz(hm:MX):OKc Tryz.prog qa8 122 KDPut:=
 rs (E:=EDPut) (N:=40) (keep:=true) (xb03 hm) hm Tryz.func122 (lsB (ids:=[(true,7)]) (by kernel_rfl) ⟨⟨_,rfl,xbb8⟩,trivial⟩) fun xs obs y h hp=>by unfold KDPut at h;split at h<;>cases h;exact tr (xb8c _ _ hp)
theorem xboj:TK BRHead:=fun hm=>tabC (K:=KDPut) (xblz hm) (xb03 hm)
theorem xbhm(hm:MX):OKc Tryz.prog qa8 128 KRHead:=
 rs0 (E:=ERHead) (N:=40) (keep:=true) (xboj hm) hm Tryz.func128 (by kernel_rfl) fun xs obs y h hp=>by unfold KRHead at h;split at h<;>cases h;exact tr (xb5a _ _ hp)
theorem xbt4:TK BR1Join:=fun hm=>tabC (K:=KRHead) (xbhm hm) (xboj hm)
theorem xb12:TK BSGrow:=tcT ER1Join KR1Join xbt4 Tryz.func129 [(true,3)] ⟨⟨_,rfl,q3y⟩,trivial⟩ fun xs obs y h hp=>by unfold KR1Join at h;split at h<;>cases h;exact tr (xby4 _ hp)
theorem xblr:TK BSConcat:=fun hm=>tabC (K:=ofS qzk SSGrow) (xbho hm) (xb12 hm)
theorem qty:TK BDWrite:=tcT ESConcat KSConcat xblr Tryz.func124 [(true,3),(true,11)] ⟨⟨_,rfl,q0n⟩,⟨_,rfl,qxk⟩,trivial⟩ fun xs obs y h hp=>by unfold KSConcat at h;split at h<;>cases h;exact tr (xbs1 _ hp)
theorem qt1(hm:MX): ∀rk,OKS 74 (qif rk) SDWrite
 | 0=>qik fun xs obs h=>by
  unfold qif at h;split at h
  ·have:=(qye h).1;simp[isTf] at this
  ·cases h
 | rk+1=>qca (E:=EDWrite rk) (N:=40) (keep:=false) hm (fun g=>(qan (qty hm 50) (qan (qt1 hm rk) (qan (qty hm 122) (qan (qty hm 123) (qan (qty hm 124) qcc)))))) Tryz.func74 rfl rfl (q99 rk) rfl (by
  intro xs obs out hq h;have hp:qif (rk+1) xs obs=true:=hq;have hp0:qif (rk+1) xs obs=true:=hq;clear hq;unfold qif at hp;split at hp
  ·rename_i a
   try simp only[zab] at hp
   have ha:=(qye hp).1;obtain⟨_,ta,ba,ka,_,rfl,_⟩:=qdk ha;refine⟨by simp[Tryz.f74], ?_⟩;rw[xbd3];exact(xbyt rk ta ba ka hp0).trans h
  ·cases hp)
theorem qwa(hm:MX):OKS 74 qoc SDWrite:=
 qfm (fun rk=>qt1 hm rk) fun xs obs h=>by
  unfold qoc at h;split at h
  ·rename_i a;unfold isW at h;rw[qab] at h;obtain⟨n,hn⟩:=@of_decide_eq_true _ (Classical.propDecidable _) h;exact⟨n,xbnr hn⟩
  ·cases h
theorem qm1:TK BRWrite:=fun hm=>tabC (K:=ofS qoc SDWrite) (qwa hm) (qty hm)
theorem qt3(hm:MX): ∀rk,OKS 77 (qig rk) SRWrite
 | 0=>qik fun xs obs h=>by
  unfold qig at h;split at h
  ·simp only[zab] at h;have:=(qld h.1).1;simp[isTf] at this
  ·cases h
 | rk+1=>qca (E:=ERWrite rk) (N:=40) (keep:=false) hm (fun g=>(qan (qt3 hm rk) (qan (qm1 hm 101) (qan (qm1 hm 103) (qan (qm1 hm 104) (qan (qm1 hm 105) (qan (qm1 hm 128) (qan (qm1 hm 129) qcc)))))))) Tryz.func77 rfl rfl (xbad rk) rfl (by
  intro xs obs out hq h;have hp:qig (rk+1) xs obs=true:=hq;have hp0:qig (rk+1) xs obs=true:=hq;clear hq;unfold qig at hp;split at hp
  ·rename_i a n
   try simp only[zab] at hp
   have ha:=(qld hp.1).1;obtain⟨_,ta,ba,ka,_,rfl,_⟩:=qdk ha;refine⟨by simp[Tryz.f77], ?_⟩;rw[xber];exact(xbzg rk ta ba ka n hp0).trans h
  ·cases hp)
theorem qwd(hm:MX):OKS 77 qod SRWrite:=
 qfm (fun rk=>qt3 hm rk) fun xs obs h=>by
  unfold qod at h;split at h
  ·rename_i a n;simp only[zab] at h;obtain⟨n',hn,hb⟩:=qdp h.1;refine⟨n', ?_⟩;show(isSr n' a&&qc2 n)=true;rw[q68 hn hb,h.2];rfl
  ·cases h
theorem xbtt:TK BDBytes:=fun hm=>tabC (K:=ofS qod SRWrite) (qwd hm) (qm1 hm)
theorem qv8(hm:MX):OKS 36 qjb SDBytes:=
 qca (E:=EDBytes) (N:=40) (keep:=false) hm (fun g=>(qan (q2r hm) (qan (qwa hm) qcc))) Tryz.func36 rfl rfl q94 rfl (by
  intro xs obs out hq h;have hp:qjb xs obs=true:=hq;have hp0:qjb xs obs=true:=hq;clear hq;unfold qjb at hp;split at hp
  ·rename_i a
   try simp only[zab] at hp
   obtain⟨_,ha,_⟩:=qdp hp;obtain⟨_,ta,ba,ka,_,rfl,_⟩:=qdk ha;refine⟨by simp[Tryz.f36], ?_⟩;rw[xbdu];exact(xbym ta ba ka hp0).trans h
  ·cases hp)
theorem xb0y:TK xbvd:=fun hm=>tabC (K:=ofS qjb SDBytes) (qv8 hm) (xbtt hm)
theorem xbhj(hm:MX):OKS 72 qpn xbqa:=
 qca (E:=xbpl) (N:=40) (keep:=false) hm (fun g=>(qan (qv8 hm) qcc)) Tryz.func72 rfl rfl xbfm rfl (by
  intro xs obs out hq h;have hp:qpn xs obs=true:=hq;have hp0:qpn xs obs=true:=hq;clear hq;unfold qpn at hp;split at hp
  ·rename_i a
   try simp only[zab] at hp
   obtain⟨_,ha,_⟩:=qdp hp;obtain⟨_,ta,ba,ka,_,rfl,_⟩:=qdk ha;refine⟨by simp[Tryz.f72], ?_⟩;rw[xbjm];exact(xb4h ta ba ka hp0).trans h
  ·cases hp)
theorem xbub:TK BRBytes:=fun hm=>tabC (K:=ofS qpn xbqa) (xbhj hm) (xb0y hm)
theorem qwb(hm:MX):OKS 38 qjc SRBytes:=
 qca (E:=ERBytes) (N:=40) (keep:=false) hm (fun g=>(qan (qwd hm) qcc)) Tryz.func38 rfl rfl xbab rfl (by
  intro xs obs out hq h;have hp:qjc xs obs=true:=hq;have hp0:qjc xs obs=true:=hq;clear hq;unfold qjc at hp;split at hp
  ·rename_i a
   try simp only[zab] at hp
   obtain⟨_,ha,_⟩:=qdp hp;obtain⟨_,ta,ba,ka,_,rfl,_⟩:=qdk ha;refine⟨by simp[Tryz.f38], ?_⟩;rw[xbeh];exact(xbzb ta ba ka hp0).trans h
  ·cases hp)
theorem xb1q:TK xbve:=fun hm=>tabC (K:=ofS qjc SRBytes) (qwb hm) (xbub hm)
theorem xbhl(hm:MX):OKS 66 qpo xbqb:=
 qca (E:=xbpr) (N:=40) (keep:=false) hm (fun g=>(qan (qwb hm) qcc)) Tryz.func66 rfl rfl xbfp rfl (by
  intro xs obs out hq h;have hp:qpo xs obs=true:=hq;have hp0:qpo xs obs=true:=hq;clear hq;unfold qpo at hp;split at hp
  ·rename_i a
   try simp only[zab] at hp
   obtain⟨_,ha,_⟩:=qdp hp;obtain⟨_,ta,ba,ka,_,rfl,_⟩:=qdk ha;refine⟨by simp[Tryz.f66], ?_⟩;rw[xbjs];exact(xb48 ta ba ka hp0).trans h
  ·cases hp)
theorem xbt6:TK BR2Same:=fun hm=>tabC (K:=ofS qpo xbqb) (xbhl hm) (xb1q hm)
theorem xb11:TK BSEq32:=tcT ER2Same KR2Same xbt6 Tryz.func109 [(true,4)] ⟨⟨_,rfl,q36⟩,trivial⟩ fun xs obs y h hp=>by unfold KR2Same at h;split at h<;>cases h;exact tr (xby6 _ _ hp)
theorem xb1l:TK BOSame:=tcT ESEq32 KSEq32 xb11 Tryz.func177 [(true,4)] ⟨⟨_,rfl,q9a⟩,trivial⟩ fun xs obs y h hp=>by unfold KSEq32 at h;split at h<;>cases h;exact tr (xb5k _ _ hp)
theorem xb1k:TK BOPut:=tc0 EOSame KOSame xb1l Tryz.func139 fun xs obs y h hp=>by unfold KOSame at h;split at h<;>cases h;exact tr (xb43 _ _ hp)
theorem xbl0(hm:MX):OKc Tryz.prog qa8 184 KOPut:=
 rs (E:=EOPut) (N:=40) (keep:=true) (xb1k hm) hm Tryz.func184 (lsB (ids:=[(false,2)]) (by kernel_rfl) ⟨⟨_,rfl,xbbw⟩,trivial⟩) fun xs obs y h hp=>by
  unfold KOPut at h;split at h
  ·cases h;exact tr (xby1 _ hp)
  ·cases h;rename_i m n l;exact tr (xby2 m n l hp)
  ·cases h
theorem q2n:TK BR2Groups:=fun hm=>tabC (K:=KOPut) (xbl0 hm) (xb1k hm)
theorem q2t(hm:MX):OKc Tryz.prog qa8 183 KR2Groups:=
 rs (E:=ER2Groups) (N:=40) (keep:=true) (q2n hm) hm Tryz.func183 (lsB (ids:=[(true,3)]) (by kernel_rfl) ⟨⟨_,rfl,qw4⟩,trivial⟩) fun xs obs y h hp=>by unfold KR2Groups at h;split at h<;>cases h;exact tr (xbkh _ hp)
theorem xbt2:TK BOBytes:=fun hm=>tabC (K:=KR2Groups) (q2t hm) (q2n hm)
theorem xblf:TK BR2Bytes:=tcT EOBytes KOBytes xbt2 Tryz.func156 [(true,5)] ⟨⟨_,rfl,q3v⟩,trivial⟩ fun xs obs y h hp=>by unfold KOBytes at h;split at h<;>cases h;exact tr (xbyz _ hp)
theorem xb16:TK BVBNum:=tcT ER2Bytes KR2Bytes xblf Tryz.func154 [(true,5)] ⟨⟨_,rfl,q0e⟩,trivial⟩ fun xs obs y h hp=>by unfold KR2Bytes at h;split at h<;>cases h;exact tr (xbso _ hp)
theorem xb7m:TK BVLe:=tcT EVBNum KVBNum xb16 Tryz.func92 [(true,3)] ⟨⟨_,rfl,q9b⟩,trivial⟩ fun xs obs y h hp=>by unfold KVBNum at h;split at h<;>cases h;exact tr (xb5o _ hp)
theorem xbuz(hm:MX):OKc Tryz.prog qa8 157 KVLe:=
 rs0 (E:=EVLe) (N:=40) (keep:=true) (xb7m hm) hm Tryz.func157 (by kernel_rfl) fun xs obs y h hp=>by unfold KVLe at h;split at h<;>cases h;exact tr (nVLe _ hp)
theorem xbha:TK BVReverse:=fun hm=>tabC (K:=KVLe) (xbuz hm) (xb7m hm)
theorem xb8v:TK BVBe:=tc0 EVReverse KVReverse xbha Tryz.func158 fun xs obs y h hp=>by unfold KVReverse at h;split at h<;>cases h;exact tr (xbkn _ hp)
theorem xb2a:TK BVR1Be:=tc0 EVBe KVBe xb8v Tryz.func120 fun xs obs y h hp=>by unfold KVBe at h;split at h<;>cases h;exact tr (nVBe _ hp)
theorem xb6i:TK BVInt:=tc0 EVR1Be KVR1Be xb2a Tryz.func114 fun xs obs y h hp=>by unfold KVR1Be at h;split at h<;>cases h;exact tr (xb5s _ hp)
theorem xb2c:TK BVRInt:=tcT EVInt KVInt xb6i Tryz.func71 [(true,2)] ⟨⟨_,rfl,xbco⟩,trivial⟩ fun xs obs y h hp=>by unfold KVInt at h;split at h<;>cases h;exact tr (xb8o _ hp)
theorem xblt:TK BVNumber:=tcT EVRInt KVRInt xb2c Tryz.func65 [(true,2)] ⟨⟨_,rfl,q9c⟩,trivial⟩ fun xs obs y h hp=>by unfold KVRInt at h;split at h<;>cases h;exact tr (xb5u _ hp)
theorem xbum:TK BVPlain:=tc0 EVNumber KVNumber xblt Tryz.func53 fun xs obs y h hp=>by unfold KVNumber at h;split at h<;>cases h;exact tr (xbs3 _ hp)
theorem xbup:TK xbbp:=tc0 EVPlain KVPlain xbum Tryz.func106 fun xs obs y h hp=>by unfold KVPlain at h;split at h<;>cases h;exact tr (xbzn _ _ _ _ hp)
theorem xbuq:TK xbbq:=tc0 xbvp xbb3 xbup Tryz.func52 fun xs obs y h hp=>by unfold xbb3 at h;split at h<;>cases h;exact tr (xbko _ _ _ hp)
theorem xbul:TK xbbn:=tc0 xbvq xbb4 xbuq Tryz.func137 fun xs obs y h hp=>by unfold xbb4 at h;split at h<;>cases h;exact tr (xbzq _ _ _ hp)
theorem xbg9:TK qwo:=tc0 xbvn xbb1 xbul Tryz.func25 fun xs obs y h hp=>by unfold xbb1 at h;split at h<;>cases h;exact tr (xbzm _ _ _ hp)
theorem xb17:TK xbpk:=tc0 xbix qww xbg9 Tryz.func140 fun xs obs y h hp=>by unfold qww at h;split at h<;>cases h;exact tr (xbkm _ _ _ hp)
theorem xbun:TK xbbo:=tc0 xb3j xbp8 xb17 Tryz.func93 fun xs obs y h hp=>by unfold xbp8 at h;split at h<;>cases h;exact tr (xb5p _ _ _ hp)
theorem xb19:TK BVMade:=tc0 xbvo xbb2 xbun Tryz.func60 fun xs obs y h hp=>by unfold xbb2 at h;split at h<;>cases h;exact tr (xbzo _ _ _ hp)
theorem xb8w:TK BVId:=tc0 EVMade KVMade xb19 Tryz.func155 fun xs obs y h hp=>by unfold KVMade at h;split at h<;>cases h;exact tr (xb5r _ _ hp)
theorem xbuj:TK BVBytes:=tc0 EVId KVId xb8w Tryz.func118 fun xs obs y h hp=>by unfold KVId at h;split at h<;>cases h;exact tr (nVId _ hp)
theorem xbuo:TK BVRMade:=tc0 EVBytes KVBytes xbuj Tryz.func119 fun xs obs y h hp=>by unfold KVBytes at h;split at h<;>cases h;exact tr (xbzk _ hp)
theorem xb6j:TK BVRId:=tc0 EVRMade KVRMade xbuo Tryz.func153 fun xs obs y h hp=>by unfold KVRMade at h;split at h<;>cases h;exact tr (xbzp _ _ hp)
theorem xblu:TK BVRBytes:=tc0 EVRId KVRId xb6j Tryz.func112 fun xs obs y h hp=>by unfold KVRId at h;split at h<;>cases h;exact tr (xb8p _ hp)
theorem xbuk:TK BVClone:=tc0 EVRBytes KVRBytes xblu Tryz.func113 fun xs obs y h hp=>by unfold KVRBytes at h;split at h<;>cases h;exact tr (xbs4 _ hp)
theorem xb6k:TK BVSeq:=tc0 EVClone KVClone xbuk Tryz.func51 fun xs obs y h hp=>by unfold KVClone at h;split at h<;>cases h;exact tr (xbzl _ hp)
theorem xb6h:TK BVBox:=tc0 EVSeq KVSeq xb6k Tryz.func70 fun xs obs y h hp=>by unfold KVSeq at h;split at h<;>cases h;exact tr (xb8q _ hp)
theorem xb18:TK BVKids:=tc0 EVBox KVBox xb6h Tryz.func165 fun xs obs y h hp=>by unfold KVBox at h;split at h<;>cases h;exact tr (xb8n _ _ hp)
theorem xb2d:TK BVRSeq:=tc0 EVKids KVKids xb18 Tryz.func24 fun xs obs y h hp=>by unfold KVKids at h;split at h<;>cases h;exact tr (xb5q _ _ _ _ hp)
theorem xb2b:TK BVRBox:=tc0 EVRSeq KVRSeq xb2d Tryz.func64 fun xs obs y h hp=>by unfold KVRSeq at h;split at h<;>cases h;exact tr (xb5v _ hp)
theorem xb52:TK BAAll:=tc0 EVRBox KVRBox xb2b Tryz.func130 fun xs obs y h hp=>by unfold KVRBox at h;split at h<;>cases h;exact tr (xb5t _ _ hp)
theorem q5p:TK BAFound:=tc0 EAAll KAAll xb52 Tryz.func138 fun xs obs y h hp=>by unfold KAAll at h;split at h<;>cases h;exact tr (xb78 hp)
theorem xbhd(hm:MX): ∀xs obs ys,q5f xs obs=true->q9d xs obs=some ys->xbvs Tryz.prog qa8 175 xs obs ys:=by
 intro xs obs ys hp h;unfold q9d at h;split at h
 ·cases h;have hE: ∀(l:Nat) (g:FuncId),Sound Tryz.prog (xbbt l).glob g (ctr (xbbt l) g):=fun l g=>(qan (q5p hm 176) qcc);refine q8l (N:=40) xbbt hE hm (fun _=>rfl) (fun _=>rfl) (fun _=>rfl) Tryz.func175 rfl xbfl (fun _=>rfl) (by decide) rfl fun l=> ?_;obtain⟨out,h1,h2⟩:=xb4f l hp;exact⟨out,(xbji l).trans h1,h2⟩
 ·cases h
theorem xbu0(hm:MX):qeo Tryz.prog EAFound:=by
 intro gf xs obs ys hp h;have h:(cond (Nat.beq gf 175) q9d (fun _ _=>none)) xs obs=some ys:=h
 cases hb:Nat.beq gf 175 with
 | false=>rw[hb] at h;cases h
 | true=>
  obtain rfl:=qag.1 hb;exact⟨xbhd hm xs obs ys hp h,_,Tryz.func175,rfl,rfl⟩
theorem xbav(hm:MX):OKS 116 qzh SAFound:=
 qca (E:=EAFound) (N:=40) (keep:=false) hm (fun g=>(qan (q5p hm 138) qt4)) Tryz.func116 rfl rfl q93 rfl (hsq:=xbu0 hm) (hS:=by
  intro xs obs out hp h;unfold SAFound at h;split at h
  ·refine⟨by simp[Tryz.f116], ?_⟩;rw[xbds];exact(xbyg _ hp).trans h
  ·cases h)
theorem xbto:TK BAGroup:=fun hm=>tabC (K:=ofS qzh SAFound) (xbav hm) (q5p hm)
theorem xb8u:TK BAId:=tc0 EAGroup KAGroup xbto Tryz.func96 fun xs obs y h hp=>by unfold KAGroup at h;split at h<;>cases h;exact tr (xbyh _ hp)
theorem xb53:TK BAOf:=tc0 EAId KAId xb8u Tryz.func164 fun xs obs y h hp=>by unfold KAId at h;split at h<;>cases h;exact tr (nAId _ hp)
theorem xb8x(hm:MX):qeo Tryz.prog EAOf:=by
 intro gf xs obs ys hp h;have h:(cond (Nat.beq gf 175) q9d (fun _ _=>none)) xs obs=some ys:=h
 cases hb:Nat.beq gf 175 with
 | false=>rw[hb] at h;cases h
 | true=>
  obtain rfl:=qag.1 hb;exact⟨xbhd hm xs obs ys hp h,_,Tryz.func175,rfl,rfl⟩
theorem xbuy(hm:MX):OKS 94 xbtd SAOf:=
 qca (E:=EAOf) (N:=40) (keep:=false) hm (fun g=>(qan (xb53 hm 138) (qan (xb53 hm 139) qt4))) Tryz.func94 rfl rfl xbry rfl (hsq:=xb8x hm) (hS:=by
  intro xs obs out hp h;unfold SAOf at h;split at h
  ·refine⟨by simp[Tryz.f94], ?_⟩;rw[xbv8];exact(nAOf _ hp).trans h
  ·cases h)
theorem xbk6:TK BARGroup:=fun hm=>tabC (K:=ofS xbtd SAOf) (xbuy hm) (xb53 hm)
theorem xbtp:TK BARNist:=tcT EARGroup KARGroup xbk6 Tryz.func108 [(false,11),(false,7),(false,5),(false,3)] ⟨⟨_,rfl,qwq⟩,⟨_,rfl,q0b⟩,⟨_,rfl,q0a⟩,⟨_,rfl,qz9⟩,trivial⟩ fun xs obs y h hp=>by unfold KARGroup at h;split at h<;>cases h;exact tr (xbr6 _ hp)
theorem xbtr:TK BARPkcs:=tc0 EARNist KARNist xbtp Tryz.func151 fun xs obs y h hp=>by unfold KARNist at h;split at h<;>cases h;exact tr (xbyi _ _ hp)
theorem xb54:TK BARId:=tc0 EARPkcs KARPkcs xbtr Tryz.func152 fun xs obs y h hp=>by unfold KARPkcs at h;split at h<;>cases h;exact tr (xbyk _ hp)
theorem xb55:TK BAROf:=tc0 EARId KARId xb54 Tryz.func110 fun xs obs y h hp=>by unfold KARId at h;split at h<;>cases h;exact tr (xb79 _ hp)
theorem xb0w:TK BAUsed:=tcT EAROf KAROf xb55 Tryz.func61 [(true,2)] ⟨⟨_,rfl,xbb6⟩,trivial⟩ fun xs obs y h hp=>by unfold KAROf at h;split at h<;>cases h;exact tr (xb8a _ hp)
theorem xb0t:TK BANode:=tc0 EAUsed KAUsed xb0w Tryz.func117 fun xs obs y h hp=>by unfold KAUsed at h;split at h<;>cases h;exact tr (xb4e _ hp)
theorem xbtq:TK BARNode:=tc0 EANode KANode xb0t Tryz.func69 fun xs obs y h hp=>by unfold KANode at h;split at h<;>cases h;exact tr (xb4b _ _ hp)
theorem xb0v:TK BATail:=tc0 EARNode KARNode xbtq Tryz.func63 fun xs obs y h hp=>by unfold KARNode at h;split at h<;>cases h;exact tr (xbyj _ _ hp)
theorem xb0u:TK BARead:=tc0 EATail KATail xb0v Tryz.func95 fun xs obs y h hp=>by unfold KATail at h;split at h<;>cases h;exact tr (xb4d _ _ hp)
theorem xb1i:TK BMSize:=tc0 EARead KARead xb0u Tryz.func55 fun xs obs y h hp=>by unfold KARead at h;split at h<;>cases h;exact tr (xb4c _ _ _ hp)
theorem xbt9:TK BR9Size:=tc0 EMSize KMSize xb1i Tryz.func168 fun xs obs y h hp=>by unfold KMSize at h;split at h<;>cases h;exact tr (xb40 _ hp)
theorem xb6d:TK BFDig:=tc0 ER9Size KR9Size xbt9 Tryz.func131 fun xs obs y h hp=>by unfold KR9Size at h;split at h<;>cases h;exact tr (xby9 _ hp)
theorem xb59:TK BEDig:=tc0 EFDig KFDig xb6d Tryz.func188 fun xs obs y h hp=>by unfold KFDig at h;split at h<;>cases h;exact tr (xb8j _ _ hp)
theorem xb1z:TK xbph:=tcT EEDig KEDig xb59 Tryz.func194 [(true,5)] ⟨⟨_,rfl,xbce⟩,trivial⟩ fun xs obs y h hp=>by unfold KEDig at h;split at h<;>cases h;exact tr (xb8f _ _ _ _ hp)
theorem xb1c:TK BFPart:=tc0 xb3g xbp5 xb1z Tryz.func187 fun xs obs y h hp=>by unfold xbp5 at h;split at h<;>cases h;exact tr (xb5i _ _ _ _ hp)
theorem xboi:TK BEPart:=tc0 EFPart KFPart xb1c Tryz.func186 fun xs obs y h hp=>by unfold KFPart at h;split at h<;>cases h;exact tr (xb4u _ _ hp)
theorem xbhk(hm:MX):OKc Tryz.prog qa8 167 KEPart:=
 rs0 (E:=EEPart) (N:=40) (keep:=true) (xboi hm) hm Tryz.func167 (by kernel_rfl) fun xs obs y h hp=>by unfold KEPart at h;split at h<;>cases h;exact tr (xb4m _ hp)
theorem xb6b:TK BEPar:=fun hm=>tabC (K:=KEPart) (xbhk hm) (xboi hm)
theorem xbt0:TK xbbl:=tcT EEPar KEPar xb6b Tryz.func166 [(true,5)] ⟨⟨_,rfl,xbci⟩,trivial⟩ fun xs obs y h hp=>by unfold KEPar at h;split at h<;>cases h;exact tr (xb8h _ _ _ _ hp)
theorem xb6a:TK BEMar:=tc0 xbvh xbbz xbt0 Tryz.func127 fun xs obs y h hp=>by unfold xbbz at h;split at h<;>cases h;exact tr (xbyx _ _ _ hp)
theorem xb10:TK xbpi:=tcT EEMar KEMar xb6a Tryz.func163 [(true,5)] ⟨⟨_,rfl,xbcg⟩,trivial⟩ fun xs obs y h hp=>by unfold KEMar at h;split at h<;>cases h;exact tr (xb8g _ _ _ hp)
theorem xbk9:TK q2y:=tc0 xb3h xbp6 xb10 Tryz.func126 fun xs obs y h hp=>by unfold xbp6 at h;split at h<;>cases h;exact tr (xb5j _ _ _ hp)
theorem xb58:TK BECha:=tc0 xbpm q3h xbk9 Tryz.func76 fun xs obs y h hp=>by unfold q3h at h;split at h<;>cases h;exact tr (xbsi _ hp)
theorem xb1y:TK xbpg:=tcT EECha KECha xb58 Tryz.func125 [(true,5)] ⟨⟨_,rfl,xbcc⟩,trivial⟩ fun xs obs y h hp=>by unfold KECha at h;split at h<;>cases h;exact tr (xb8e _ _ _ hp)
theorem xbg3:TK qwl:=tc0 xb3f xbp4 xb1y Tryz.func75 fun xs obs y h hp=>by unfold xbp4 at h;split at h<;>cases h;exact tr (xb5h _ _ _ hp)
theorem xbuh:TK xbmc:=tc0 xbiv qwt xbg3 Tryz.func37 fun xs obs y h hp=>by unfold qwt at h;split at h<;>cases h;exact tr (xbke _ hp)
theorem xbg8:TK qwn:=fun hm=>tabC (K:=ofS qrf xbcq) (xba0 hm) (xbuh hm)
theorem xbls:TK q3d:=tcT qwp qwv xbg8 Tryz.func40 [(true,3),(true,11)] ⟨⟨_,rfl,qxj⟩,⟨_,rfl,qup⟩,trivial⟩ fun xs obs y h hp=>by unfold qwv at h;split at h<;>cases h;exact tr (xbkl _ hp)
theorem xb13:TK xbpj:=tcT xbbu q3m xbls Tryz.func80 [(true,2)] ⟨⟨_,rfl,q0o⟩,trivial⟩ fun xs obs y h hp=>by unfold q3m at h;split at h<;>cases h;exact tr (xbs2 _ _ hp)
theorem xb6g:TK xb26:=tc0 xb3i xbp7 xb13 Tryz.func41 fun xs obs y h hp=>by unfold xbp7 at h;split at h<;>cases h;exact tr (xb5l _ _ hp)
theorem xbue:TK xbbm:=tcT xb6s xb3k xb6g Tryz.func42 [(true,4)] ⟨⟨_,rfl,xbcm⟩,trivial⟩ fun xs obs y h hp=>by unfold xb3k at h;split at h<;>cases h;exact tr (xb8m _ _ hp)
theorem xbg4:TK BEDigests:=tcT xbme xbb0 xbue Tryz.func32 [(true,4)] ⟨⟨_,rfl,q4e⟩,trivial⟩ fun xs obs y h hp=>by unfold xbb0 at h;split at h<;>cases h;exact tr (xbzf _ _ hp)
theorem xbg6:TK BRDigests:=tcT EEDigests KEDigests xbg4 Tryz.func21 [(true,3)] ⟨⟨_,rfl,qwz⟩,trivial⟩ fun xs obs y h hp=>by unfold KEDigests at h;split at h<;>cases h;exact tr (xbkf _ hp)
theorem xb1b:TK xbo9:=tcT ERDigests KRDigests xbg6 Tryz.func17 [(true,10),(true,6),(true,3)] ⟨⟨_,rfl,qun⟩,⟨_,rfl,qxb⟩,⟨_,rfl,qxa⟩,trivial⟩ fun xs obs y h hp=>by unfold KRDigests at h;split at h<;>cases h;exact tr (xbkj _ hp)
theorem xb57:TK BEAlg:=tc0 xb28 xbpx xb1b Tryz.func68 fun xs obs y h hp=>by unfold xbpx at h;split at h<;>cases h;exact tr (xb4t _ hp)
theorem xb1x:TK xbpf:=tcT EEAlg KEAlg xb57 Tryz.func115 [(true,5)] ⟨⟨_,rfl,xbca⟩,trivial⟩ fun xs obs y h hp=>by unfold KEAlg at h;split at h<;>cases h;exact tr (xb8d _ _ _ hp)
theorem xb6c:TK BERec:=tc0 xb3e xbp3 xb1x Tryz.func67 fun xs obs y h hp=>by unfold xbp3 at h;split at h<;>cases h;exact tr (xb5g _ _ _ hp)
theorem xb05:TK BERFit:=tc0 EERec KERec xb6c Tryz.func35 fun xs obs y h hp=>by unfold KERec at h;split at h<;>cases h;exact tr (xb8i _ _ hp)
theorem xb1t:TK BRMark:=tc0 EERFit KERFit xb05 Tryz.func15 fun xs obs y h hp=>by unfold KERFit at h;split at h<;>cases h;exact tr (xb4n _ _ hp)
theorem xblj:TK BRChains:=tcT ERMark KRMark xb1t Tryz.func78 [(true,14),(true,8)] ⟨⟨_,rfl,q4b⟩,⟨_,rfl,q88⟩,trivial⟩ fun xs obs y h hp=>by unfold KRMark at h;split at h<;>cases h;exact tr (xb5c _ _ _ hp)
theorem xb6f:TK BRRec:=tcT ERChains KRChains xblj Tryz.func39 [(true,11),(true,5)] ⟨⟨_,rfl,qw9⟩,⟨_,rfl,q0h⟩,trivial⟩ fun xs obs y h hp=>by unfold KRChains at h;split at h<;>cases h;exact tr (xbss _ hp)
theorem xblp:TK BRRBytes:=tcT ERRec KRRec xb6f Tryz.func34 [(true,6)] ⟨⟨_,rfl,xbck⟩,trivial⟩ fun xs obs y h hp=>by unfold KRRec at h;split at h<;>cases h;exact tr (xb8l _ _ hp)
theorem xbtz:TK xbbk:=tc0 ERRBytes KRRBytes xblp Tryz.func19 fun xs obs y h hp=>by unfold KRRBytes at h;split at h<;>cases h;exact tr (xbsy _ _ hp)
theorem xb08:TK xbo6:=tc0 xbvg xbby xbtz Tryz.func143 fun xs obs y h hp=>by unfold xbby at h;split at h<;>cases h;exact tr (xbyw _ _ _ hp)
theorem xb1f:TK xbpc:=tcT xbvk xbpu xb08 Tryz.func178 [(true,5)] ⟨⟨_,rfl,q83⟩,trivial⟩ fun xs obs y h hp=>by unfold xbpu at h;split at h<;>cases h;exact tr (xb4q _ _ _ hp)
theorem xblc:TK q3b:=tc0 xb3b xbp0 xb1f Tryz.func142 fun xs obs y h hp=>by unfold xbp0 at h;split at h<;>cases h;exact tr (xb4x _ _ _ _ hp)
theorem xb1a:TK xbo8:=tc0 xbpp q3k xblc Tryz.func99 fun xs obs y h hp=>by unfold q3k at h;split at h<;>cases h;exact tr (xbsl _ _ _ hp)
theorem xb1h:TK xbpe:=tcT xbvm xbpw xb1a Tryz.func141 [(true,5)] ⟨⟨_,rfl,q85⟩,trivial⟩ fun xs obs y h hp=>by unfold xbpw at h;split at h<;>cases h;exact tr (xb4s _ _ _ hp)
theorem xbla:TK q2z:=tc0 xb3d xbp2 xb1h Tryz.func98 fun xs obs y h hp=>by unfold xbp2 at h;split at h<;>cases h;exact tr (xb4z _ _ _ _ hp)
theorem xblb:TK q3a:=tc0 xbpn q3i xbla Tryz.func100 fun xs obs y h hp=>by unfold q3i at h;split at h<;>cases h;exact tr (xbsj _ _ _ hp)
theorem xb09:TK xbo7:=tc0 xbpo q3j xblb Tryz.func58 fun xs obs y h hp=>by unfold q3j at h;split at h<;>cases h;exact tr (xbsk _ _ _ hp)
theorem xb1g:TK xbpd:=tcT xbvl xbpv xb09 Tryz.func97 [(true,5)] ⟨⟨_,rfl,q84⟩,trivial⟩ fun xs obs y h hp=>by unfold xbpv at h;split at h<;>cases h;exact tr (xb4r _ _ _ hp)
theorem xbg2:TK qwk:=tc0 xb3c xbp1 xb1g Tryz.func57 fun xs obs y h hp=>by unfold xbp1 at h;split at h<;>cases h;exact tr (xb4y _ _ _ _ hp)
theorem xb07:TK xbo5:=tc0 xbiu qws xbg2 Tryz.func29 fun xs obs y h hp=>by unfold qws at h;split at h<;>cases h;exact tr (xbkd _ _ _ hp)
theorem xb1e:TK xbpb:=tcT xbvj xbpt xb07 Tryz.func56 [(true,5)] ⟨⟨_,rfl,q82⟩,trivial⟩ fun xs obs y h hp=>by unfold xbpt at h;split at h<;>cases h;exact tr (xb4p _ _ _ hp)
theorem xbty:TK xbbj:=tc0 xb3a xbpz xb1e Tryz.func28 fun xs obs y h hp=>by unfold xbpz at h;split at h<;>cases h;exact tr (xb4w _ _ _ _ hp)
theorem xb06:TK xbo4:=tc0 xbvf xbbx xbty Tryz.func27 fun xs obs y h hp=>by unfold xbbx at h;split at h<;>cases h;exact tr (xbyv _ _ _ hp)
theorem xb1d:TK xbpa:=tcT xbvi xbps xb06 Tryz.func54 [(true,5)] ⟨⟨_,rfl,q81⟩,trivial⟩ fun xs obs y h hp=>by unfold xbps at h;split at h<;>cases h;exact tr (xb4o _ _ _ hp)
theorem xbt1:TK BEParse:=tc0 xb29 xbpy xb1d Tryz.func26 fun xs obs y h hp=>by unfold xbpy at h;split at h<;>cases h;exact tr (xb4v _ _ _ _ hp)
theorem xbt8:TK BR4Same:=tc0 EEParse KEParse xbt1 Tryz.func8 fun xs obs y h hp=>by unfold KEParse at h;split at h<;>cases h;exact tr (xbyy _ hp)
theorem xbli:TK BR38Same:=tcT ER4Same KR4Same xbt8 Tryz.func62 [(true,4)] ⟨⟨_,rfl,q38⟩,trivial⟩ fun xs obs y h hp=>by unfold KR4Same at h;split at h<;>cases h;exact tr (xby8 _ _ hp)
theorem xbuc:TK BRESame:=tcT ER38Same KR38Same xbli Tryz.func33 [(true,4)] ⟨⟨_,rfl,q0g⟩,trivial⟩ fun xs obs y h hp=>by unfold KR38Same at h;split at h<;>cases h;exact tr (xbsr _ _ hp)
theorem xbur:TK BWAwake:=tcT ERESame KRESame xbuc Tryz.func10 [(true,9),(true,4)] ⟨⟨_,rfl,q4a⟩,⟨_,rfl,q39⟩,trivial⟩ fun xs obs y h hp=>by unfold KRESame at h;split at h<;>cases h;exact tr (xbzc _ _ _ _ hp)
theorem xbln:TK BRMarked:=tc0 EWAwake KWAwake xbur Tryz.func7 fun xs obs y h hp=>by unfold KWAwake at h;split at h<;>cases h;exact tr (xbzr hp)
theorem xblk:TK BREParse:=tcT ERMarked KRMarked xbln Tryz.func31 [(true,12),(true,8)] ⟨⟨_,rfl,qxg⟩,⟨_,rfl,q0j⟩,trivial⟩ fun xs obs y h hp=>by unfold KRMarked at h;split at h<;>cases h;exact tr (xbsw _ _ _ hp)
theorem qzv:TK BWReads:=tcT EREParse KREParse xblk Tryz.func9 [(true,11),(true,7)] ⟨⟨_,rfl,qxc⟩,⟨_,rfl,q0i⟩,trivial⟩ fun xs obs y h hp=>by unfold KREParse at h;split at h<;>cases h;exact tr (xbst _ hp)
theorem xba1(hm:MX):OKS 3 qzl SWReads:=
 qca (E:=EWReads) (N:=40) (keep:=false) hm (fun g=>(qan (qzv hm 7) (qan (qzv hm 8) (qan (qzv hm 9) (qan (qzv hm 10) qcc))))) Tryz.func3 rfl rfl xbae rfl (by
  intro xs obs out hp h;unfold SWReads at h;split at h
  ·refine⟨by simp[Tryz.f3], ?_⟩;rw[xbew];exact(xbzs _ hp).trans h
  ·cases h)
end Go.Proofs.YtoaakappnhemiaaGreatDoorA
