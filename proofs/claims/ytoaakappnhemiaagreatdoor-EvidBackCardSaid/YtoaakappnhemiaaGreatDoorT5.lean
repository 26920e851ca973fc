/-
 The library's comparison of bytes: its contract holds. Conditions: none.
-/
import Derived.Test.YtoaakappnhemiaaGreatDoorT3b
import Derived.Lib.BytesEntry
import Derived.Test.YtoaakappnhemiaaGreatDoorK3
import Derived.Shelf.Spec.SlicesGrow
import Derived.Test.YtoaakappnhemiaaGreatDoorT4b
set_option linter.unusedVariables false
set_option linter.unusedSimpArgs false
set_option maxRecDepth 100000
set_option linter.defProp false
namespace Go.Proofs.YtoaakappnhemiaaGreatDoorA
def xbgo{P:Program}{w:World}{Im:NP}{l:LI}{v:Value}(h:CRep w Im (.sli .u8 l) v):(Extern.Bytes.bytesOf v).run P w=.ok ⟨(Lib.bytesOf l).toArray⟩ w:=by
 cases h with
 | sli _ _ a len cap hl hc hcell=>
  cases a with
  | none=>
   have:l=[]:=by
    cases l with
    | nil=>rfl
    | cons x r=>obtain⟨ad,e,_⟩:=hcell 0 x rfl;cases e
   subst this;rfl
  | some ad=>
   subst hl;have:=Lib.run_loadBytesX (P:=P) w l ad .empty (fun j x hj=>by obtain⟨ad',e,_,hc⟩:=hcell j x hj;cases e;exact hc);refine this.trans ?_;congr 1;apply ByteArray.ext;show(#[]:Array UInt8)++(Lib.bytesOf l).toArray=(Lib.bytesOf l).toArray;simp
def xbef: ∀(a b:LI),(∀x∈a,0<=x/\x<=255)->(∀x∈b,0<=x/\x<=255)->Lib.compareBytes (Lib.bytesOf a) (Lib.bytesOf b)=qbr a b
 | [],[],_,_=>rfl
 | [],_::_,_,_=>rfl
 | _::_,[],_,_=>rfl
 | x::a,y::b,ha,hb=>by
  have ih:=xbef a b (fun z hz=>ha z (za8 _ hz)) (fun z hz=>hb z (za8 _ hz));have hx:=ha x (zck ..);have hy:=hb y (zck ..);have e1:(UInt8.ofNat x.toNat<UInt8.ofNat y.toNat)↔x<y:=by rw[UInt8.lt_iff_toNat_lt,zdp,zdp];omega
  have e2:(UInt8.ofNat y.toNat<UInt8.ofNat x.toNat)↔y<x:=by rw[UInt8.lt_iff_toNat_lt,zdp,zdp];omega
  show(if UInt8.ofNat x.toNat<UInt8.ofNat y.toNat then(-1:Int) else if UInt8.ofNat y.toNat<UInt8.ofNat x.toNat then 1 else Lib.compareBytes (Lib.bytesOf a) (Lib.bytesOf b))=(if x<y then -1 else if y<x then 1 else qbr a b);simp only[e1,e2,ih]
def xb2n{P:Program}{w:World}{Im:NP}{a b:LI}{va vb:Value}(ha:CRep w Im (.sli .u8 a) va)(hb:CRep w Im (.sli .u8 b) vb)(h1: ∀x∈a,0<=x/\x<=255)(h2: ∀x∈b,0<=x/\x<=255):
  (Extern.BytealgCompare.compare #[va,vb]).run P w=.ok (.int .i64 (qbr a b)) w:=by
 change Sem.run P (do pure (goInt (Extern.BytealgCompare.cmp (<- Extern.Bytes.bytesOf va) (<- Extern.Bytes.bytesOf vb)))) w=_;simp only[Sem.run_bind,Sem.run_pure,xbgo ha,xbgo hb,Result.andThen];rw[Lib.cmp_eq];show Result.ok (Value.int .i64 (Lib.compareBytes (Lib.bytesOf a) (Lib.bytesOf b))) w=_;rw[xbef a b h1 h2]
def q0f(hm:Tryz.prog.follows .mixedOrders=true):Sound Tryz.prog qa9 185 (fun xs obs=>cond (qjw xs obs) (SBACompare xs obs).eval none):=by
 intro xs obs out w Im ρ bl vs hs hpre;obtain⟨h1,h2⟩:=qaa hs;unfold qjw at h1;split at h1
 ·rename_i a b;simp only[zab] at h1;have h2:some (Out.ret [.cl (.int .i64 (qhr a b))] [])=some out:=h2;cases h2;have hl:vs.length=2:=hpre.reps.1
  match vs,hl,hpre with
  | [va,vb],_,hpre=>
   have ra:CRep w Im (.sli .u8 a) va:=by have:=hpre.reps.2 0 _ _ rfl rfl;cases this;assumption
   have rb:CRep w Im (.sli .u8 b) vb:=by have:=hpre.reps.2 1 _ _ rfl rfl;cases this;assumption
   refine .inr ⟨.int .i64 (qhr a b),w, ?_,[.int .i64 (qhr a b)],Im,ρ,rfl,⟨Fr.refl w bl,hpre.gam,fun j o o' hj=>by cases hj⟩,rfl,fun j c v hj hv=> ?_⟩
   ·rw[run_callFunc_extern (e:=Extern.BytealgCompare.compare) Tryz.func185 rfl rfl rfl (by kernel_rfl)];show Result.andThen ((Extern.BytealgCompare.compare #[va,vb]).run Tryz.prog w) _=_;rw[xb2n ra rb (qak h1.1).2 (qak h1.2).2];unfold qhr;rw[qab];rfl
   ·match j,hj,hv with
    | 0,hj,hv=>cases hj;cases hv;exact .cl _ _ (.int ..)
    | j+1,hj,hv=>cases hj
 ·cases h1
def q3b:Go.Shelf.Ren:=⟨fun _=>162,fun t=>cond (Nat.beq t 25) 5 (cond (Nat.beq t 22) 22 t),fun g=>g⟩
def xbga(hm:Tryz.prog.follows .mixedOrders=true):Lays8.n4 Tryz.prog q3b where
 mixed:=hm
 f4:=⟨Tryz.f162.name,by decide,by kernel_rfl⟩
 t0:=Tryz.underlying0
 a0:=fun w=>by kernel_rfl
 z0:=fun w=>by kernel_rfl
 v0:=fun w=>by kernel_rfl
 t3:=Tryz.underlying3
 a3:=fun w=>by kernel_rfl
 z3:=fun w=>by kernel_rfl
 v3:=fun w=>by kernel_rfl
 t4:=Tryz.underlying4
 a4:=fun w=>by kernel_rfl
 z4:=fun w=>by kernel_rfl
 v4:=fun w=>by kernel_rfl
 t9:=Tryz.underlying9
 a9:=fun w=>by kernel_rfl
 z9:=fun w=>by kernel_rfl
 v9:=fun w=>by kernel_rfl
 t20:=Tryz.underlying20
 a20:=fun w=>by kernel_rfl
 z20:=fun w=>by kernel_rfl
 v20:=fun w=>by kernel_rfl
 t22:=Tryz.underlying22
 a22:=fun w=>by kernel_rfl
 z22:=fun w=>by kernel_rfl
 v22:=fun w=>by kernel_rfl
def info5:(Tryz.prog.info? 5).map (fun i=>(i.zero,i.size,i.bytes))=some (some (.int .u8 0),1,1):=by kernel_rfl
def xbf0{bl:NP}{w w':World}{Im:NP}{ρ ρ':NL}{l:Loc}(h:Gam w.heap.size bl Im w Im ρ [])(hsz:w.heap.size<=w'.heap.size)(hρ:ρ' 0=l)(ho:ORep w' Im ρ' (shOf [(0,⟨.ints .u8 [],false⟩)]) (.ints .u8 []) l)(hl: ∀b x y,l=some (b,x,y)->b<w'.heap.size/\¬Im b/\w.heap.size<=b):
  Gam w.heap.size bl Im w' Im ρ' [(0,⟨.ints .u8 [],false⟩)]:=by
 have one: ∀(p:Nat) (o:Obj),qal ([(0,⟨.ints .u8 [],false⟩)]:Heap) p=some o->p=0/\o=⟨.ints .u8 [],false⟩:=fun p o hp=>by
  simp only[qal] at hp
  cases hb:Nat.beq 0 p with
  | true=>rw[hb] at hp;cases hp;exact⟨(qag.1 hb).symm,rfl⟩
  | false=>rw[hb] at hp;cases hp
 refine⟨fun b hb=>za5 (h.im b hb) hsz,h.i0,fun p o hp=> ?_,fun p q o o' b x y x' y' hp hq _ _ hne=> ?_,fun p o b x y hp hr=> ?_,h.imo⟩
 ·obtain⟨rfl,rfl⟩:=one p o hp;rw[hρ];exact ho
 ·exact absurd ((one p o hp).1.trans (one q o' hq).1.symm) hne
 ·obtain⟨rfl,rfl⟩:=one p o hp;rw[hρ] at hr;obtain⟨h1,h2,h3⟩:=hl b x y hr;exact⟨h1,fun e=>absurd e zb9,fun _=>⟨h2,.inr h3⟩⟩
def xbiv(hm:Tryz.prog.follows .mixedOrders=true):Sound Tryz.prog qa9 162 (fun xs obs=>cond (qz4 xs obs) (SSGrow xs obs).eval none):=by
 intro xs obs out w Im ρ bl vs hs hpre;obtain⟨h1,h2⟩:=qaa hs;unfold qz4 at h1;split at h1
 ·rename_i n;have h2:some (Out.ret [.ref 0 0 0 true 1] [some ⟨.ints .u8 qa6,false⟩])=some out:=h2;cases h2;have hn:0<=n/\n<=100000000:=by unfold q2a at h1;rw[qab] at h1;exact ye h1
  obtain⟨m,rfl⟩: ∃m:Nat,n=m:=⟨n.toNat,by omega⟩;have hl:vs.length=2:=hpre.reps.1
  match vs,hl,hpre with
  | [va,vb],_,hpre=>
   have ra:=hpre.reps.2 0 _ _ rfl rfl;have rb:=hpre.reps.2 1 _ _ rfl rfl;cases ra;obtain rfl:vb=.int .i64 m:=by
    cases rb with
    | cl _ _ h=>cases h;rfl
   refine .inl ⟨?_, ?_⟩
   ·have hn': ¬Tryz.f162.name= "runtime.NumGoroutine" :=ye (by kernel_rfl);obtain⟨c,hc⟩: ∃c,Tryz.f162.body=some c:=⟨_,rfl⟩;simp[callFunc,Tryz.func162,hn',hc]
   ·have e:qa6=[]:=qab _;rw[e];have hg:Gam w.heap.size bl Im w Im ρ []:=hpre.gam;by_cases hz:m=0
    ·subst hz;refine(Any8.slices_Grow_room (xbga hm) none 0 0 0 w (zap _) (by omega) (by omega) (zap _)).mono fun e w' ⟨he,hw⟩=> ?_;subst he;subst hw;refine⟨[.slice none 0 0],Im,fun _=>none,rfl,⟨Fr.refl _ bl,xbf0 hg (zap _) rfl ⟨rfl,rfl,trivial⟩ (fun b x y h=>by cases h),fun j o o' hj=>by cases hj⟩,rfl,fun j c v hj hv=> ?_⟩
     match j,hj,hv with
     | 0,hj,hv=>cases hj;cases hv;exact .refV 0 ⟨0,1,false⟩ true 1 rfl rfl rfl rfl
     | j+1,hj,hv=>cases hj
    ·obtain⟨i0,hi0,hi⟩:=zam.1 info5;simp only[zaz] at hi;obtain⟨hi1,hi2,hi3⟩:=hi;refine(Any8.slices_Grow_grow (xbga hm) i0 (.int .u8 0) hi0 hi1 (by omega) none 0 0 m [] w (zap _) (by omega) (by rw[hi3];omega) (by omega) (by simp) (fun _=>rfl) (fun a h=>by cases h)).mono fun e w' ⟨he,hw⟩=> ?_;have hG:0+m<=grownCap w (0+m) 0 (q3b.t 25):=grownCap_ge w _ _ _;generalize grownCap w (0+m) 0 (q3b.t 25)=G at*;subst he;generalize hcs:([]:List Value).toArray++Builtin.zeroCells (Value.int .u8 0).cells (0+m - 0)++Builtin.zeroCells (Value.int .u8 0).cells (G - (0+m))=cs at hw;have hsz:cs.size=G:=by rw[<- hcs,zdh,zdh,size_zeroCells,size_zeroCells];simp[Value.cells];omega
     have hheap:w'.heap=w.heap.push (.cells cs (q3b.t 25) (0,0)):=by rw[hw];rfl
     have hb:w'.heap[w.heap.size]? =some (.cells cs (q3b.t 25) (0,0)):=by rw[hheap];simp
     have hFr:Fr w bl w':=by refine⟨by rw[hw];rfl,by rw[hw];rfl,by rw[hw];rfl,by rw[hheap,zdm];omega,fun b hb' _=>by rw[hheap,zdk,yb (by omega)]⟩
     refine⟨[.slice (some ⟨w.heap.size,0,none⟩) 0 G],Im,fun _=>some (w.heap.size,0,G),rfl,⟨hFr,xbf0 hg hFr.size rfl ⟨trivial,by rw[hheap];simp,zbc _,fun i hi=>⟨?_, ?_⟩,fun j c hj=>by simp[qai] at hj⟩ (fun b x y h=> ?_),fun j o o' hj=>by cases hj⟩,rfl,fun j c v hj hv=> ?_⟩
     ·simp[World.cell?,hb,hsz,hi]
     ·simp[World.frozen?,hb]
     ·cases h;exact⟨by rw[hheap];simp,fun hI=>Nat.lt_irrefl _ (hg.im _ hI),zap _⟩
     ·match j,hj,hv with
      | 0,hj,hv=>
       cases hj;cases hv;exact .ref 0 0 0 true 1 ⟨0,1,false⟩ w.heap.size 0 G ⟨w.heap.size,0,none⟩ G rfl rfl rfl (zbc _) (zap _) (fun _=>rfl) (fun _=>rfl) (by omega)
      | j+1,hj,hv=>cases hj
 ·cases h1
def quf:Go.Shelf.Ren:=⟨fun _=>79,fun t=>cond (Nat.beq t 25) 68 (cond (Nat.beq t 22) 40 t),fun g=>g⟩
def q8b(hm:Tryz.prog.follows .mixedOrders=true):Lays8.n4 Tryz.prog quf where
 mixed:=hm
 f4:=⟨Tryz.f79.name,by decide,by kernel_rfl⟩
 t0:=Tryz.underlying0
 a0:=fun w=>by kernel_rfl
 z0:=fun w=>by kernel_rfl
 v0:=fun w=>by kernel_rfl
 t3:=Tryz.underlying3
 a3:=fun w=>by kernel_rfl
 z3:=fun w=>by kernel_rfl
 v3:=fun w=>by kernel_rfl
 t4:=Tryz.underlying4
 a4:=fun w=>by kernel_rfl
 z4:=fun w=>by kernel_rfl
 v4:=fun w=>by kernel_rfl
 t9:=Tryz.underlying9
 a9:=fun w=>by kernel_rfl
 z9:=fun w=>by kernel_rfl
 v9:=fun w=>by kernel_rfl
 t20:=Tryz.underlying20
 a20:=fun w=>by kernel_rfl
 z20:=fun w=>by kernel_rfl
 v20:=fun w=>by kernel_rfl
 t22:=Tryz.underlying40
 a22:=fun w=>by kernel_rfl
 z22:=fun w=>by kernel_rfl
 v22:=fun w=>by kernel_rfl
def xb6c:(Tryz.prog.info? 68).map (fun i=>(i.zero,i.size,i.bytes))=some (some (.agg #[.int .i64 0,.slice none 0 0,.slice none 0 0]),3,56):=by kernel_rfl
def q7z{bl:NP}{w w':World}{Im:NP}{ρ ρ':NL}{l:Loc}(h:Gam w.heap.size bl Im w Im ρ [])(hsz:w.heap.size<=w'.heap.size)(hρ:ρ' 0=l)(ho:ORep w' Im ρ' (shOf [(0,⟨.gen 3 [],false⟩)]) (.gen 3 []) l)(hl: ∀b x y,l=some (b,x,y)->b<w'.heap.size/\¬Im b/\w.heap.size<=b):
  Gam w.heap.size bl Im w' Im ρ' [(0,⟨.gen 3 [],false⟩)]:=by
 have one: ∀(p:Nat) (o:Obj),qal ([(0,⟨.gen 3 [],false⟩)]:Heap) p=some o->p=0/\o=⟨.gen 3 [],false⟩:=fun p o hp=>by
  simp only[qal] at hp
  cases hb:Nat.beq 0 p with
  | true=>rw[hb] at hp;cases hp;exact⟨(qag.1 hb).symm,rfl⟩
  | false=>rw[hb] at hp;cases hp
 refine⟨fun b hb=>za5 (h.im b hb) hsz,h.i0,fun p o hp=> ?_,fun p q o o' b x y x' y' hp hq _ _ hne=> ?_,fun p o b x y hp hr=> ?_,h.imo⟩
 ·obtain⟨rfl,rfl⟩:=one p o hp;rw[hρ];exact ho
 ·exact absurd ((one p o hp).1.trans (one q o' hq).1.symm) hne
 ·obtain⟨rfl,rfl⟩:=one p o hp;rw[hρ] at hr;obtain⟨h1,h2,h3⟩:=hl b x y hr;exact⟨h1,fun e=>absurd e zb9,fun _=>⟨h2,.inr h3⟩⟩
def xbb1(hm:Tryz.prog.follows .mixedOrders=true):Sound Tryz.prog qa9 79 (fun xs obs=>cond (qrw xs obs) (xbdm xs obs).eval none):=by
 intro xs obs out w Im ρ bl vs hs hpre;obtain⟨h1,h2⟩:=qaa hs;unfold qrw at h1;split at h1
 ·rename_i n;have h2:some (Out.ret [.ref 0 0 0 true 3] [some ⟨.gen 3 qcg,false⟩])=some out:=h2;cases h2;have hn:0<=n/\n<=100000000:=by unfold q2a at h1;rw[qab] at h1;exact ye h1
  obtain⟨m,rfl⟩: ∃m:Nat,n=m:=⟨n.toNat,by omega⟩;have hl:vs.length=2:=hpre.reps.1
  match vs,hl,hpre with
  | [va,vb],_,hpre=>
   have ra:=hpre.reps.2 0 _ _ rfl rfl;have rb:=hpre.reps.2 1 _ _ rfl rfl;cases ra;obtain rfl:vb=.int .i64 m:=by
    cases rb with
    | cl _ _ h=>cases h;rfl
   refine .inl ⟨?_, ?_⟩
   ·have hn': ¬Tryz.f79.name= "runtime.NumGoroutine" :=ye (by kernel_rfl);obtain⟨c,hc⟩: ∃c,Tryz.f79.body=some c:=⟨_,rfl⟩;simp[callFunc,Tryz.func79,hn',hc]
   ·have e:qcg=[]:=qab _;rw[e];have hg:Gam w.heap.size bl Im w Im ρ []:=hpre.gam;by_cases hz:m=0
    ·subst hz;refine(Any8.slices_Grow_room (q8b hm) none 0 0 0 w (zap _) (by omega) (by omega) (zap _)).mono fun e w' ⟨he,hw⟩=> ?_;subst he;subst hw;refine⟨[.slice none 0 0],Im,fun _=>none,rfl,⟨Fr.refl _ bl,q7z hg (zap _) rfl ⟨rfl,rfl,fun c hc=>nomatch hc⟩ (fun b x y h=>by cases h),fun j o o' hj=>by cases hj⟩,rfl,fun j c v hj hv=> ?_⟩
     match j,hj,hv with
     | 0,hj,hv=>cases hj;cases hv;exact .refV 0 ⟨0,3,false⟩ true 3 rfl rfl rfl rfl
     | j+1,hj,hv=>cases hj
    ·obtain⟨i0,hi0,hi⟩:=zam.1 xb6c;simp only[zaz] at hi;obtain⟨hi1,hi2,hi3⟩:=hi;refine(Any8.slices_Grow_grow (q8b hm) i0 (.agg #[.int .i64 0,.slice none 0 0,.slice none 0 0]) hi0 hi1 (by omega) none 0 0 m [] w (zap _) (by omega) (by rw[hi3];omega) (by omega) (by simp) (fun _=>rfl) (fun a h=>by cases h)).mono fun e w' ⟨he,hw⟩=> ?_;have hG:0+m<=grownCap w (0+m) 0 (quf.t 25):=grownCap_ge w _ _ _;generalize grownCap w (0+m) 0 (quf.t 25)=G at*;subst he;generalize hcs:([]:List Value).toArray++Builtin.zeroCells (Value.agg #[.int .i64 0,.slice none 0 0,.slice none 0 0]).cells (0+m - 0)++Builtin.zeroCells (Value.agg #[.int .i64 0,.slice none 0 0,.slice none 0 0]).cells (G - (0+m))=cs at hw;have hsz:cs.size=G*3:=by rw[<- hcs,zdh,zdh,size_zeroCells,size_zeroCells];simp[Value.cells];omega
     have hheap:w'.heap=w.heap.push (.cells cs (quf.t 25) (0,0)):=by rw[hw];rfl
     have hb:w'.heap[w.heap.size]? =some (.cells cs (quf.t 25) (0,0)):=by rw[hheap];simp
     have hFr:Fr w bl w':=by refine⟨by rw[hw];rfl,by rw[hw];rfl,by rw[hw];rfl,by rw[hheap,zdm];omega,fun b hb' _=>by rw[hheap,zdk,yb (by omega)]⟩
     refine⟨[.slice (some ⟨w.heap.size,0,none⟩) 0 G],Im,fun _=>some (w.heap.size,0,G*3),rfl,⟨hFr,q7z hg hFr.size rfl ⟨(fun c hc=>nomatch hc),by rw[hheap];simp,zbc _,fun i hi=>⟨?_, ?_⟩,fun j c hj=>by simp[qai] at hj⟩ (fun b x y h=> ?_),fun j o o' hj=>by cases hj⟩,rfl,fun j c v hj hv=> ?_⟩
     ·simp[World.cell?,hb,hsz,hi]
     ·simp[World.frozen?,hb]
     ·cases h;exact⟨by rw[hheap];simp,fun hI=>Nat.lt_irrefl _ (hg.im _ hI),zap _⟩
     ·match j,hj,hv with
      | 0,hj,hv=>
       cases hj;cases hv;exact .ref 0 0 0 true 3 ⟨0,3,false⟩ w.heap.size 0 (G*3) ⟨w.heap.size,0,none⟩ G rfl rfl rfl (zbc _) (zap _) (fun _=>rfl) (fun _=>rfl) (by omega)
      | j+1,hj,hv=>cases hj
 ·cases h1
def qfv{P:Program}{glob:Nat->Option CV}{g:FuncId}{p:LV->List Obj->Bool}{q:Nat->LV->List Obj->Bool}{S:LV->List Obj->Tree}(h: ∀rk,Sound P glob g (fun xs obs=>cond (q rk xs obs) (S xs obs).eval none))(hp: ∀xs obs,p xs obs=true->∃rk,q rk xs obs=true):
  Sound P glob g (fun xs obs=>cond (p xs obs) (S xs obs).eval none):=by
 intro xs obs out w Im ρ bl vs hs;obtain⟨h1,h2⟩:=qaa hs;obtain⟨rk,hq⟩:=hp xs obs h1;exact h rk xs obs out w Im ρ bl vs (by show cond (q rk xs obs) _ _=_;rw[hq];exact h2)
def qi2{P:Program}{glob:Nat->Option CV}{g:FuncId}{p:LV->List Obj->Bool}{S:LV->List Obj->Tree}(h: ∀xs obs, ¬p xs obs=true):Sound P glob g (fun xs obs=>cond (p xs obs) (S xs obs).eval none):=by intro xs obs out w Im ρ bl vs hs;exact absurd (qaa hs).1 (h xs obs)
def quq{P:Program}{glob:Nat->Option CV}{g:FuncId}{p:LV->List Obj->Bool}:Sound P glob g (fun xs obs=>cond (p xs obs) ((fun _ _=>Tree.fail:LV->List Obj->Tree) xs obs).eval none):=by intro xs obs out w Im ρ bl vs hs;cases(qaa hs).2
abbrev MX:Prop:=Tryz.prog.follows .mixedOrders=true
abbrev TK(B:Nat->Ct):Prop:=MX->xbdn Tryz.prog qa9 B
abbrev OKS(g:FuncId)(p:LV->List Obj->Bool)(S:LV->List Obj->Tree):Prop:=Sound Tryz.prog qa9 g (fun xs obs=>cond (p xs obs) (S xs obs).eval none)
def xbvt:TK BDigits:=fun _=>tab0
def xb2v:TK BDLeap:=tc0 EDigits KDigits xbvt Tryz.func172 fun xs obs y h hp=>by unfold KDigits at h;split at h<;>cases h;exact tr (xb0r _ hp)
def xb2s:TK BDDays:=tc0 EDLeap KDLeap xb2v Tryz.func195 fun xs obs y h hp=>by unfold KDLeap at h;split at h<;>cases h;rename_i d0 d1 d2 d3 d4 d5;exact tr (xb6n d0 d1 d2 d3 d4 d5 hp)
def xb8c:TK BDFit:=tc0 EDDays KDDays xb2s Tryz.func191 fun xs obs y h hp=>by unfold KDDays at h;split at h<;>cases h;rename_i d0 d1 d2 d3 d4 d5;exact tr (xb6l d0 d1 d2 d3 d4 d5 hp)
def xb2z:TK BDSecs:=tc0 EDFit KDFit xb8c Tryz.func173 fun xs obs y h hp=>by unfold KDFit at h;split at h<;>cases h;exact tr (xcag _ _ _ _ _ _ hp)
def xb30:TK BSRead:=tc0 EDSecs KDSecs xb2z Tryz.func174 fun xs obs y h hp=>by unfold KDSecs at h;split at h<;>cases h;exact tr (xb6p _ _ _ _ _ _ hp)
def xb3n:TK BRLeap:=tc0 ESRead KSRead xb30 Tryz.func136 fun xs obs y h hp=>by unfold KSRead at h;split at h<;>cases h;exact tr (xb7s _ hp)
def xb3k:TK BRDays:=tc0 ERLeap KRLeap xb3n Tryz.func193 fun xs obs y h hp=>by unfold KRLeap at h;split at h<;>cases h;exact tr (xb7g _ hp)
def xbwa:TK BRYears:=tc0 ERDays KRDays xb3k Tryz.func181 fun xs obs y h hp=>by unfold KRDays at h;split at h<;>cases h;exact tr (xb7c _ _ hp)
def xbm4:TK BRNumber:=tc0 ERYears KRYears xbwa Tryz.func182 fun xs obs y h hp=>by unfold KRYears at h;split at h<;>cases h;exact tr (xb1d _ hp)
def xb3q:TK BRRead:=tcT ERNumber KRNumber xbm4 Tryz.func180 [(true,3)] ⟨⟨_,rfl,q00⟩,trivial⟩ fun xs obs y h hp=>by unfold KRNumber at h;split at h<;>cases h;exact tr (xbus _ hp)
def xbvo:TK BDBoxed:=tcT ERRead KRRead xb3q Tryz.func148 [(true,13)] ⟨⟨_,rfl,q4z⟩,trivial⟩ fun xs obs y h hp=>by unfold KRRead at h;split at h<;>cases h;exact tr (xb7j _ hp)
def xbv5:TK BRBoxed:=tc0 EDBoxed KDBoxed xbvo Tryz.func50 fun xs obs y h hp=>by unfold KDBoxed at h;split at h<;>cases h;exact tr (xb0i _ hp)
def xbvq:TK BDKnown:=tc0 ERBoxed KRBoxed xbv5 Tryz.func103 fun xs obs y h hp=>by unfold KRBoxed at h;split at h<;>cases h;exact tr (xb06 _ hp)
def xbm5:TK BRTagged:=tc0 EDKnown KDKnown xbvq Tryz.func87 fun xs obs y h hp=>by unfold KDKnown at h;split at h<;>cases h;exact tr (xb0l _ hp)
def xbh9:TK qw3:=tc0 ERTagged KRTagged xbm5 Tryz.func101 fun xs obs y h hp=>by unfold KRTagged at h;split at h<;>cases h;exact tr (xbuu _ hp)
def xbmo:TK BDNumber:=tc0 xbj0 qng xbh9 Tryz.func121 fun xs obs y h hp=>by unfold qng at h;split at h<;>cases h;exact tr (xbls _ hp)
def xbm2:TK q35:=tc0 EDNumber KDNumber xbmo Tryz.func132 fun xs obs y h hp=>by unfold KDNumber at h;split at h<;>cases h;exact tr (xbua _ hp)
def xbvs:TK BDStrip:=tc0 xbrb q4d xbm2 Tryz.func145 fun xs obs y h hp=>by unfold q4d at h;split at h<;>cases h;exact tr (xbuq _ hp)
def xbig:TK qw7:=tc0 EDStrip KDStrip xbvs Tryz.func133 fun xs obs y h hp=>by unfold KDStrip at h;split at h<;>cases h;exact tr (xb0o _ hp)
def xb3j:TK BRCont:=tc0 xbj4 qxi xbig Tryz.func146 fun xs obs y h hp=>by unfold qxi at h;split at h<;>cases h;exact tr (xbl1 _ hp)
def xb3r:TK BRRune:=tc0 ERCont KRCont xb3j Tryz.func192 fun xs obs y h hp=>by unfold KRCont at h;split at h<;>cases h;exact tr (xb7b _ _ hp)
def xb3s:TK BRUtf8:=tcT ERRune KRRune xb3r Tryz.func179 [(false,10),(false,8)] ⟨⟨_,rfl,q37⟩,⟨_,rfl,q9y⟩,trivial⟩ fun xs obs y h hp=>by unfold KRRune at h;split at h<;>cases h;exact tr (xb7k _ _ hp)
def xb8k:TK BOFit:=tcT ERUtf8 KRUtf8 xb3s Tryz.func147 [(true,2)] ⟨⟨_,rfl,q98⟩,trivial⟩ fun xs obs y h hp=>by unfold KRUtf8 at h;split at h<;>cases h;exact tr (xb7l _ hp)
def xb3i:TK BR2Fit:=tc0 EOFit KOFit xb8k Tryz.func170 fun xs obs y h hp=>by unfold KOFit at h;split at h<;>cases h;exact tr (xcap _ hp)
def xbmx:TK BR2First:=tc0 ER2Fit KR2Fit xb3i Tryz.func150 fun xs obs y h hp=>by unfold KR2Fit at h;split at h<;>cases h;exact tr (xb7a _ hp)
def xbmu:TK BONumber:=tc0 ER2First KR2First xbmx Tryz.func149 fun xs obs y h hp=>by unfold KR2First at h;split at h<;>cases h;exact tr (xbul _ hp)
def q3h:TK BONumbers:=tcT EONumber KONumber xbmu Tryz.func190 [(true,3)] ⟨⟨_,rfl,q0t⟩,trivial⟩ fun xs obs y h hp=>by unfold KONumber at h;split at h<;>cases h;exact tr (xbui _ hp)
def q3o(hm:MX):OKc Tryz.prog qa9 169 KONumbers:=
 rs0 (E:=EONumbers) (N:=40) (keep:=true) (q3h hm) hm Tryz.func169 (by kernel_rfl) fun xs obs y h hp=>by unfold KONumbers at h;split at h<;>cases h;exact tr (xblx _ hp)
def xbpy:TK BARoot:=fun hm=>tabC (K:=KONumbers) (q3o hm) (q3h hm)
def xbip(hm:MX):OKc Tryz.prog qa9 176 KARoot:=
 rs0 (E:=EARoot) (N:=40) (keep:=true) (xbpy hm) hm Tryz.func176 (by kernel_rfl) fun xs obs y h hp=>by
  unfold KARoot at h;split at h
  ·cases h;exact tr (xbt0 hp)
  ·cases h;exact tr (xbt1 hp)
  ·cases h;exact tr (xbt2 hp)
  ·cases h;exact tr (xbt3 hp)
  ·cases h;exact tr (xbt4 hp)
  ·cases h;exact tr (xbt5 hp)
  ·cases h
def q0d:TK BOParse:=fun hm=>tabC (K:=KARoot) (xbip hm) (xbpy hm)
def xbwo(hm:MX): ∀xs obs ys,xbhq xs obs=true->QONums xs obs=some ys->xbxo Tryz.prog qa9 189 xs obs ys:=by
 intro xs obs ys hp h;unfold QONums at h;split at h
 ·rename_i b;cases h;have hE: ∀(l:Nat) (g:FuncId),Sound Tryz.prog (EONums l).glob g (ctr (EONums l) g):=fun l g=>(qao (q0d hm 190) qcq);refine q9i (N:=40) EONums hE hm (fun _=>rfl) (fun _=>rfl) (fun _=>rfl) Tryz.func189 rfl xbgt (fun _=>rfl) (by decide) rfl fun l=> ?_;obtain⟨out,h1,h2⟩:=xb67 l b hp;exact⟨out,(xbk3 l b).trans h1,h2⟩
 ·cases h
def xbww(hm:MX):qdp Tryz.prog EOParse:=by
 intro gf xs obs ys hp h;have h:(cond (Nat.beq gf 189) QONums (fun _ _=>none)) xs obs=some ys:=h
 cases hb:Nat.beq gf 189 with
 | false=>rw[hb] at h;cases h
 | true=>
  obtain rfl:=qag.1 hb;exact⟨xbwo hm xs obs ys hp h,_,Tryz.func189,rfl,rfl⟩
def xbbz(hm:MX):OKS 134 qz3 SOParse:=
 qcp (E:=EOParse) (N:=40) (keep:=false) hm (fun g=>(qao (q0d hm 169) (qao (q0d hm 170) quq))) Tryz.func134 rfl rfl xbbb rfl (hsq:=xbww hm) (hS:=by
  intro xs obs out hp h;unfold SOParse at h;split at h
  ·refine⟨by simp[Tryz.f134], ?_⟩;rw[xbfb];exact(xb0x _ hp).trans h
  ·cases h)
def xbmy:TK BR2Parse:=fun hm=>tabC (K:=ofS qz3 SOParse) (xbbz hm) (q0d hm)
def xbv1:TK BR1Same:=tcT ER2Parse KR2Parse xbmy Tryz.func107 [(true,5)] ⟨⟨_,rfl,q0v⟩,trivial⟩ fun xs obs y h hp=>by unfold KR2Parse at h;split at h<;>cases h;exact tr (xbum _ hp)
def xbwb:TK BSClone:=tcT ER1Same KR1Same xbv1 Tryz.func14 [(true,4)] ⟨⟨_,rfl,q4s⟩,trivial⟩ fun xs obs y h hp=>by unfold KR1Same at h;split at h<;>cases h;exact tr (xb02 _ _ hp)
def xb3h:TK BR1Num:=tc0 ESClone KSClone xbwb Tryz.func91 fun xs obs y h hp=>by unfold KSClone at h;split at h<;>cases h;exact tr (xb1e _ hp)
def xbm3:TK BRLength:=tcT ER1Num KR1Num xb3h Tryz.func144 [(true,3)] ⟨⟨_,rfl,q96⟩,trivial⟩ fun xs obs y h hp=>by unfold KR1Num at h;split at h<;>cases h;exact tr (xb69 _ hp)
def xbv2:TK BR4Less:=tc0 ERLength KRLength xbm3 Tryz.func102 fun xs obs y h hp=>by unfold KRLength at h;split at h<;>cases h;exact tr (xbur _ hp)
def xb31:TK BUWord:=tcT ER4Less KR4Less xbv2 Tryz.func111 [(true,2)] ⟨⟨_,rfl,q4t⟩,trivial⟩ fun xs obs y h hp=>by unfold KR4Less at h;split at h<;>cases h;exact tr (xb03 _ _ hp)
def xbwd:TK BUValid:=tc0 EUWord KUWord xb31 Tryz.func171 fun xs obs y h hp=>by unfold KUWord at h;split at h<;>cases h;exact tr (xb7t _ hp)
def xb2u:TK BDFits:=tcT EUValid KUValid xbwd Tryz.func135 [(true,10),(true,2)] ⟨⟨_,rfl,q05⟩,⟨_,rfl,q43⟩,trivial⟩ fun xs obs y h hp=>by unfold KUValid at h;split at h<;>cases h;exact tr (xb1f _ hp)
def xb3m:TK BRFits:=tc0 EDFits KDFits xb2u Tryz.func90 fun xs obs y h hp=>by unfold KDFits at h;split at h<;>cases h;exact tr (xb0k _ _ hp)
def xbie:TK BR4Sorted:=tc0 ERFits KRFits xb3m Tryz.func104 fun xs obs y h hp=>by unfold KRFits at h;split at h<;>cases h;exact tr (xb7e _ _ hp)
def xbbv:TK BBACompare:=tcT ER4Sorted KR4Sorted xbie Tryz.func105 [(true,2)] ⟨⟨_,rfl,qxv⟩,trivial⟩ fun xs obs y h hp=>by unfold KR4Sorted at h;split at h<;>cases h;exact tr (xblz _ hp)
def xbh8:TK BBCompare:=fun hm=>tabC (K:=ofS qjw SBACompare) (q0f hm) (xbbv hm)
def xb3e:TK BOLess:=tc0 EBCompare KBCompare xbh8 Tryz.func161 fun xs obs y h hp=>by unfold KBCompare at h;split at h<;>cases h;exact tr (xblr _ _ hp)
def xbvz:TK BOSteps:=tc0 EOLess KOLess xb3e Tryz.func160 fun xs obs y h hp=>by unfold KOLess at h;split at h<;>cases h;exact tr (xb66 _ _ hp)
def xbmv:TK BOSorted:=tcT EOSteps KOSteps xbvz Tryz.func159 [(true,2)] ⟨⟨_,rfl,q4p⟩,trivial⟩ fun xs obs y h hp=>by unfold KOSteps at h;split at h<;>cases h;exact tr (xb00 _ hp)
def qp2:TK xbns:=tc0 EOSorted KOSorted xbmv Tryz.func123 fun xs obs y h hp=>by unfold KOSorted at h;split at h<;>cases h;exact tr (xbuj _ hp)
def qun(hm:MX): ∀rk,OKS 59 (que rk) qvo
 | 0=>qi2 fun xs obs h=>by
  unfold que at h;split at h
  ·simp at h
  ·cases h
 | rk+1=>qcp (E:=q6z rk) (N:=40) (keep:=false) hm (fun g=>(qao (qun hm rk) (qao (qp2 hm 101) (qao (qp2 hm 102) (qao (qp2 hm 103) (qao (qp2 hm 104) (qao (qp2 hm 105) qcq))))))) Tryz.func59 rfl rfl (xbbd rk) rfl (by
  intro xs obs out hp h;unfold qvo at h;split at h
  ·refine⟨by simp[Tryz.f59], ?_⟩;rw[xbfo];exact(xb1a rk _ _ hp).trans h
  ·cases h)
def xbb0(hm:MX):OKS 59 qrv qvo:=
 qfv (fun rk=>qun hm rk) fun xs obs h=>by
  unfold qrv at h;split at h
  ·rename_i b deep;simp only[zab] at h;refine⟨deep.toNat+1, ?_⟩;show(qad b&&(qc1 deep&&decide (deep.toNat<deep.toNat+1)))=true;simp only[zab,yd];exact⟨h.1,h.2,by omega⟩
  ·cases h
def xbv8:TK BRParse:=fun hm=>tabC (K:=ofS qrv qvo) (xbb0 hm) (qp2 hm)
def xb2w:TK BDMust:=tc0 ERParse KRParse xbv8 Tryz.func30 fun xs obs y h hp=>by unfold KRParse at h;split at h<;>cases h;exact tr (xb09 _ hp)
def xb2x:TK BDNext:=tc0 EDMust KDMust xb2w Tryz.func49 fun xs obs y h hp=>by
  unfold KDMust at h;split at h
  ·cases h;rename_i e;exact tr (xbt8 e hp)
  ·cases h;exact tr (xbt9 _ hp)
  ·cases h
def xbmn:TK BDLength:=tc0 EDNext KDNext xb2x Tryz.func86 fun xs obs y h hp=>by unfold KDNext at h;split at h<;>cases h;exact tr (xb6o _ _ hp)
def qh2:TK BDValue:=tcT EDLength KDLength xbmn Tryz.func88 [(true,7)] ⟨⟨_,rfl,q0r⟩,trivial⟩ fun xs obs y h hp=>by unfold KDLength at h;split at h<;>cases h;exact tr (xbt7 _ _ hp)
def qul(hm:MX)(rk:Nat)(hV:OKS 48 (qla rk) SDValue):OKS 89 (qud rk) SDParts:=
 qcp (E:=EDParts rk) (N:=40) (keep:=false) hm (fun g=>(qao (hV) (qao (qh2 hm 49) (qao (qh2 hm 123) qcq)))) Tryz.func89 rfl rfl (xba8 rk) rfl (by
  intro xs obs out hp h;unfold SDParts at h;split at h
  ·refine⟨by simp[Tryz.f89], ?_⟩;rw[xbe0];exact(xb0n rk _ _ _ _ hp).trans h
  ·cases h)
def q6i(hm:MX)(rk:Nat)(hP:OKS 89 (qud rk) SDParts):OKS 48 (qla (rk+1)) SDValue:=
 qcp (E:=EDValue rk) (N:=40) (keep:=false) hm (fun g=>(qao (qh2 hm 49) (qao (qh2 hm 50) (qao (qh2 hm 86) (qao (qh2 hm 87) (qao (qh2 hm 88) (qao (hP) (qao (qh2 hm 90) (qao (qh2 hm 91) qcq))))))))) Tryz.func48 rfl rfl (xba9 rk) rfl (by
  intro xs obs out hp h;unfold SDValue at h;split at h
  ·refine⟨by simp[Tryz.f48], ?_⟩;rw[xbe1];exact(xb0p rk _ _ hp).trans h
  ·cases h)
def xbiu(hm:MX): ∀rk,OKS 48 (qla rk) SDValue
 | 0=>qi2 fun xs obs h=>by
  unfold qla at h;split at h
  ·simp at h
  ·cases h
 | rk+1=>q6i hm rk (qul hm rk (xbiu hm rk))
def qwt(hm:MX):OKS 48 qoi SDValue:=
 qfv (fun rk=>xbiu hm rk) fun xs obs h=>by
  unfold qoi at h;split at h
  ·rename_i l d;simp only[zab] at h;refine⟨d.toNat+1, ?_⟩;show(qad l&&(qc1 d&&decide (d.toNat<d.toNat+1)))=true;simp only[zab,yd];exact⟨h.1,h.2,by omega⟩
  ·cases h
def xbby(hm:MX):OKS 89 qru SDParts:=
 qfv (fun rk=>qul hm rk (xbiu hm rk)) fun xs obs h=>by
  unfold qru at h;split at h
  ·rename_i tag b l d;simp only[zab,yd] at h;refine⟨d.toNat, ?_⟩;show(qad b&&(qc1 d&&decide (0<d/\d.toNat<d.toNat+1)))=true;simp only[zab,yd];exact⟨h.1,h.2.1,h.2.2,by omega⟩
  ·cases h
def xbvr:TK BDParts:=fun hm=>tabC (K:=ofS qoi SDValue) (qwt hm) (qh2 hm)
def xbia:TK BDParse:=fun hm=>tabC (K:=ofS qru SDParts) (xbby hm) (xbvr hm)
def xbki(hm:MX):DSound Tryz.prog qa9 47 (fun m xs obs=>cond (qub m xs obs) (DDCatch m xs obs) none):=by
 have hE: ∀g,Sound Tryz.prog EDCatch.glob g (ctr EDCatch g):=fun g=>qcq;refine xbmj (E:=EDCatch) (N:=40) hE (qqu rfl) rfl (qkp hE hm) rfl Tryz.func47 xba6 rfl ?_;intro m xs obs out h;obtain⟨hp,h⟩:=qaa h;unfold DDCatch at h;split at h
 ·refine⟨by simp[Tryz.f47], ?_⟩;rw[q5n];exact h
 ·refine⟨by simp[Tryz.f47], ?_⟩;rw[q5o];exact h
 ·refine⟨by simp[Tryz.f47], ?_⟩;rw[q5p];exact h
 ·cases h
def xbbx(hm:MX):OKS 23 qz2 SDParse:=by
 have hE: ∀g,Sound Tryz.prog EDParse.glob g (ctr EDParse g):=fun g=>(qao (qwt hm) (qao (xbia hm 49) qcq));refine xbae (E:=EDParse) (D:=DEDParse) (N:=40) (keep:=false) hE (qqu rfl) (qkp hE hm) (fun g=> ?_) (fun g m xs obs out h=> ?_) rfl Tryz.func23 rfl rfl rfl xba7 rfl (fun xs obs out h=> ?_)
 ·show DSound Tryz.prog qa9 g fun m xs obs=>cond ((cond (Nat.beq g 47) qub (fun _ _ _=>false)) m xs obs) ((cond (Nat.beq g 47) DDCatch (fun _ _ _=>none)) m xs obs) none
  cases hb:Nat.beq g 47 with
  | true=>obtain rfl:=qag.1 hb;exact xbki hm
  | false=>intro m xs obs out w Im ρ bl vs u h;cases h
 ·have h:(cond (Nat.beq g 47) DDCatch (fun _ _ _=>none)) m xs obs=some out:=h
  cases hb:Nat.beq g 47 with
  | true=>obtain rfl:=qag.1 hb;exact⟨_,Tryz.func47,rfl,rfl⟩
  | false=>rw[hb] at h;cases h
 ·obtain⟨hp,h⟩:=qaa h;unfold SDParse at h;split at h
  ·refine⟨by simp[Tryz.f23], ?_⟩;rw[xbey];exact(xb0m _ hp).trans h
  ·cases h
def q3f:TK BDSize:=fun hm=>tabC (K:=ofS qz2 SDParse) (xbbx hm) (xbia hm)
def qww(hm:MX): ∀rk,OKS 73 (qmb rk) SDSize
 | 0=>qi2 fun xs obs h=>by
  unfold qmb at h;split at h
  ·simp only[zab] at h;have:=(qls h.1).1;simp[isTf] at this
  ·cases h
 | rk+1=>qcp (E:=EDSize rk) (N:=40) (keep:=false) hm (fun g=>(qao (q3f hm 50) (qao (qww hm rk) (qao (q3f hm 87) (qao (q3f hm 90) (qao (q3f hm 121) qcq)))))) Tryz.func73 rfl rfl (xbgs rk) rfl (by
  intro xs obs out hq h;have hp:qmb (rk+1) xs obs=true:=hq;have hp0:qmb (rk+1) xs obs=true:=hq;clear hq;unfold qmb at hp;split at hp
  ·rename_i a n
   try simp only[zab] at hp
   have ha:=(qls hp.1).1;obtain⟨_,ta,ba,ka,_,rfl,_⟩:=qdi ha;refine⟨by simp[Tryz.f73], ?_⟩;rw[xbkz];exact(xb6q rk ta ba ka n hp0).trans h
  ·cases hp)
def q3m(hm:MX):OKS 73 quc SDSize:=
 qfv (fun rk=>qww hm rk) fun xs obs h=>by
  unfold quc at h;split at h
  ·rename_i a n;simp only[zab] at h;obtain⟨n',hn,hb⟩:=qc8 h.1;refine⟨n', ?_⟩;show(isSr n' a&&qc1 n)=true;rw[q75 hn hb,h.2];rfl
  ·cases h
def xb2y:TK BDPut:=fun hm=>tabC (K:=ofS quc SDSize) (q3m hm) (q3f hm)
def xbnf(hm:MX):OKc Tryz.prog qa9 122 KDPut:=
 rs (E:=EDPut) (N:=40) (keep:=true) (xb2y hm) hm Tryz.func122 (lsB (ids:=[(true,7)]) (by kernel_rfl) ⟨⟨_,rfl,xbc5⟩,trivial⟩) fun xs obs y h hp=>by unfold KDPut at h;split at h<;>cases h;exact tr (xcah _ _ hp)
def xbp0:TK BRHead:=fun hm=>tabC (K:=KDPut) (xbnf hm) (xb2y hm)
def xbit(hm:MX):OKc Tryz.prog qa9 128 KRHead:=
 rs0 (E:=ERHead) (N:=40) (keep:=true) (xbp0 hm) hm Tryz.func128 (by kernel_rfl) fun xs obs y h hp=>by unfold KRHead at h;split at h<;>cases h;exact tr (xb7f _ _ hp)
def xbv0:TK BR1Join:=fun hm=>tabC (K:=KRHead) (xbit hm) (xbp0 hm)
def xb3y:TK BSGrow:=tcT ER1Join KR1Join xbv0 Tryz.func129 [(true,3)] ⟨⟨_,rfl,q4q⟩,trivial⟩ fun xs obs y h hp=>by unfold KR1Join at h;split at h<;>cases h;exact tr (xb01 _ hp)
def xbm6:TK BSConcat:=fun hm=>tabC (K:=ofS qz4 SSGrow) (xbiv hm) (xb3y hm)
def quj:TK BDWrite:=tcT ESConcat KSConcat xbm6 Tryz.func124 [(true,3),(true,11)] ⟨⟨_,rfl,q03⟩,⟨_,rfl,qx7⟩,trivial⟩ fun xs obs y h hp=>by unfold KSConcat at h;split at h<;>cases h;exact tr (xbuv _ hp)
def qum(hm:MX): ∀rk,OKS 74 (qiy rk) SDWrite
 | 0=>qi2 fun xs obs h=>by
  unfold qiy at h;split at h
  ·have:=(qyz h).1;simp[isTf] at this
  ·cases h
 | rk+1=>qcp (E:=EDWrite rk) (N:=40) (keep:=false) hm (fun g=>(qao (quj hm 50) (qao (qum hm rk) (qao (quj hm 122) (qao (quj hm 123) (qao (quj hm 124) qcq)))))) Tryz.func74 rfl rfl (xbba rk) rfl (by
  intro xs obs out hq h;have hp:qiy (rk+1) xs obs=true:=hq;have hp0:qiy (rk+1) xs obs=true:=hq;clear hq;unfold qiy at hp;split at hp
  ·rename_i a
   try simp only[zab] at hp
   have ha:=(qyz hp).1;obtain⟨_,ta,ba,ka,_,rfl,_⟩:=qdi ha;refine⟨by simp[Tryz.f74], ?_⟩;rw[xbe4];exact(xb0q rk ta ba ka hp0).trans h
  ·cases hp)
def qwu(hm:MX):OKS 74 qoj SDWrite:=
 qfv (fun rk=>qum hm rk) fun xs obs h=>by
  unfold qoj at h;split at h
  ·rename_i a;unfold isW at h;rw[qab] at h;obtain⟨n,hn⟩:=@ye _ (ya _) h;exact⟨n,xbo7 hn⟩
  ·cases h
def qnc:TK BRWrite:=fun hm=>tabC (K:=ofS qoj SDWrite) (qwu hm) (quj hm)
def qup(hm:MX): ∀rk,OKS 77 (qiz rk) SRWrite
 | 0=>qi2 fun xs obs h=>by
  unfold qiz at h;split at h
  ·simp only[zab] at h;have:=(qls h.1).1;simp[isTf] at this
  ·cases h
 | rk+1=>qcp (E:=ERWrite rk) (N:=40) (keep:=false) hm (fun g=>(qao (qup hm rk) (qao (qnc hm 101) (qao (qnc hm 103) (qao (qnc hm 104) (qao (qnc hm 105) (qao (qnc hm 128) (qao (qnc hm 129) qcq)))))))) Tryz.func77 rfl rfl (xbbe rk) rfl (by
  intro xs obs out hq h;have hp:qiz (rk+1) xs obs=true:=hq;have hp0:qiz (rk+1) xs obs=true:=hq;clear hq;unfold qiz at hp;split at hp
  ·rename_i a n
   try simp only[zab] at hp
   have ha:=(qls hp.1).1;obtain⟨_,ta,ba,ka,_,rfl,_⟩:=qdi ha;refine⟨by simp[Tryz.f77], ?_⟩;rw[xbfr];exact(xb1c rk ta ba ka n hp0).trans h
  ·cases hp)
def qwx(hm:MX):OKS 77 qok SRWrite:=
 qfv (fun rk=>qup hm rk) fun xs obs h=>by
  unfold qok at h;split at h
  ·rename_i a n;simp only[zab] at h;obtain⟨n',hn,hb⟩:=qc8 h.1;refine⟨n', ?_⟩;show(isSr n' a&&qc1 n)=true;rw[q75 hn hb,h.2];rfl
  ·cases h
def xbvp:TK BDBytes:=fun hm=>tabC (K:=ofS qok SRWrite) (qwx hm) (qnc hm)
def qws(hm:MX):OKS 36 qjx SDBytes:=
 qcp (E:=EDBytes) (N:=40) (keep:=false) hm (fun g=>(qao (q3m hm) (qao (qwu hm) qcq))) Tryz.func36 rfl rfl xba5 rfl (by
  intro xs obs out hq h;have hp:qjx xs obs=true:=hq;have hp0:qjx xs obs=true:=hq;clear hq;unfold qjx at hp;split at hp
  ·rename_i a
   try simp only[zab] at hp
   obtain⟨_,ha,_⟩:=qc8 hp;obtain⟨_,ta,ba,ka,_,rfl,_⟩:=qdi ha;refine⟨by simp[Tryz.f36], ?_⟩;rw[xbeu];exact(xb0j ta ba ka hp0).trans h
  ·cases hp)
def xb2t:TK xbxa:=fun hm=>tabC (K:=ofS qjx SDBytes) (qws hm) (xbvp hm)
def xbiq(hm:MX):OKS 72 qpy xbrv:=
 qcp (E:=xbq6) (N:=40) (keep:=false) hm (fun g=>(qao (qws hm) qcq)) Tryz.func72 rfl rfl xbgr rfl (by
  intro xs obs out hq h;have hp:qpy xs obs=true:=hq;have hp0:qpy xs obs=true:=hq;clear hq;unfold qpy at hp;split at hp
  ·rename_i a
   try simp only[zab] at hp
   obtain⟨_,ha,_⟩:=qc8 hp;obtain⟨_,ta,ba,ka,_,rfl,_⟩:=qdi ha;refine⟨by simp[Tryz.f72], ?_⟩;rw[xbky];exact(xb6m ta ba ka hp0).trans h
  ·cases hp)
def xbv6:TK BRBytes:=fun hm=>tabC (K:=ofS qpy xbrv) (xbiq hm) (xb2t hm)
def qwv(hm:MX):OKS 38 qjy SRBytes:=
 qcp (E:=ERBytes) (N:=40) (keep:=false) hm (fun g=>(qao (qwx hm) qcq)) Tryz.func38 rfl rfl xbbc rfl (by
  intro xs obs out hq h;have hp:qjy xs obs=true:=hq;have hp0:qjy xs obs=true:=hq;clear hq;unfold qjy at hp;split at hp
  ·rename_i a
   try simp only[zab] at hp
   obtain⟨_,ha,_⟩:=qc8 hp;obtain⟨_,ta,ba,ka,_,rfl,_⟩:=qdi ha;refine⟨by simp[Tryz.f38], ?_⟩;rw[xbfi];exact(xb07 ta ba ka hp0).trans h
  ·cases hp)
def xb3l:TK xbxb:=fun hm=>tabC (K:=ofS qjy SRBytes) (qwv hm) (xbv6 hm)
def xbis(hm:MX):OKS 66 qpz xbrw:=
 qcp (E:=xbrc) (N:=40) (keep:=false) hm (fun g=>(qao (qwv hm) qcq)) Tryz.func66 rfl rfl xbgu rfl (by
  intro xs obs out hq h;have hp:qpz xs obs=true:=hq;have hp0:qpz xs obs=true:=hq;clear hq;unfold qpz at hp;split at hp
  ·rename_i a
   try simp only[zab] at hp
   obtain⟨_,ha,_⟩:=qc8 hp;obtain⟨_,ta,ba,ka,_,rfl,_⟩:=qdi ha;refine⟨by simp[Tryz.f66], ?_⟩;rw[xbk4];exact(xb7d ta ba ka hp0).trans h
  ·cases hp)
def xb3x:TK BSEq32:=fun hm=>tabC (K:=ofS qpz xbrw) (xbis hm) (xb3l hm)
def xb3g:TK BOSame:=tcT ESEq32 KSEq32 xb3x Tryz.func177 [(true,4)] ⟨⟨_,rfl,q99⟩,trivial⟩ fun xs obs y h hp=>by unfold KSEq32 at h;split at h<;>cases h;exact tr (xb7q _ _ hp)
def xb3f:TK BOPut:=tc0 EOSame KOSame xb3g Tryz.func139 fun xs obs y h hp=>by unfold KOSame at h;split at h<;>cases h;exact tr (xb68 _ _ hp)
def xbng(hm:MX):OKc Tryz.prog qa9 184 KOPut:=
 rs (E:=EOPut) (N:=40) (keep:=true) (xb3f hm) hm Tryz.func184 (lsB (ids:=[(false,2)]) (by kernel_rfl) ⟨⟨_,rfl,xbcw⟩,trivial⟩) fun xs obs y h hp=>by
  unfold KOPut at h;split at h
  ·cases h;exact tr (xb0y _ hp)
  ·cases h;rename_i m n l;exact tr (xb0z m n l hp)
  ·cases h
def q3i:TK BR2Groups:=fun hm=>tabC (K:=KOPut) (xbng hm) (xb3f hm)
def q3p(hm:MX):OKc Tryz.prog qa9 183 KR2Groups:=
 rs (E:=ER2Groups) (N:=40) (keep:=true) (q3i hm) hm Tryz.func183 (lsB (ids:=[(true,3)]) (by kernel_rfl) ⟨⟨_,rfl,qxs⟩,trivial⟩) fun xs obs y h hp=>by unfold KR2Groups at h;split at h<;>cases h;exact tr (xbly _ hp)
def xbvy:TK BOBytes:=fun hm=>tabC (K:=KR2Groups) (q3p hm) (q3i hm)
def xbmw:TK BR2Bytes:=tcT EOBytes KOBytes xbvy Tryz.func156 [(true,5)] ⟨⟨_,rfl,q4n⟩,trivial⟩ fun xs obs y h hp=>by unfold KOBytes at h;split at h<;>cases h;exact tr (xb0w _ hp)
def xb32:TK BVBNum:=tcT ER2Bytes KR2Bytes xbmw Tryz.func154 [(true,5)] ⟨⟨_,rfl,q0u⟩,trivial⟩ fun xs obs y h hp=>by unfold KR2Bytes at h;split at h<;>cases h;exact tr (xbuk _ hp)
def xb9r:TK BVLe:=tcT EVBNum KVBNum xb32 Tryz.func92 [(true,3)] ⟨⟨_,rfl,xbaa⟩,trivial⟩ fun xs obs y h hp=>by unfold KVBNum at h;split at h<;>cases h;exact tr (xb7u _ hp)
def xbwu(hm:MX):OKc Tryz.prog qa9 157 KVLe:=
 rs0 (E:=EVLe) (N:=40) (keep:=true) (xb9r hm) hm Tryz.func157 (by kernel_rfl) fun xs obs y h hp=>by unfold KVLe at h;split at h<;>cases h;exact tr (nVLe _ hp)
def xbij:TK BVReverse:=fun hm=>tabC (K:=KVLe) (xbwu hm) (xb9r hm)
def xca1:TK BVBe:=tc0 EVReverse KVReverse xbij Tryz.func158 fun xs obs y h hp=>by unfold KVReverse at h;split at h<;>cases h;exact tr (xbl4 _ hp)
def xb36:TK BVR1Be:=tc0 EVBe KVBe xca1 Tryz.func120 fun xs obs y h hp=>by unfold KVBe at h;split at h<;>cases h;exact tr (nVBe _ hp)
def xb8o:TK BVInt:=tc0 EVR1Be KVR1Be xb36 Tryz.func114 fun xs obs y h hp=>by unfold KVR1Be at h;split at h<;>cases h;exact tr (xb7y _ hp)
def xb38:TK BVRInt:=tcT EVInt KVInt xb8o Tryz.func71 [(true,2)] ⟨⟨_,rfl,xbdl⟩,trivial⟩ fun xs obs y h hp=>by unfold KVInt at h;split at h<;>cases h;exact tr (xcat _ hp)
def xbm8:TK BVNumber:=tcT EVRInt KVRInt xb38 Tryz.func65 [(true,2)] ⟨⟨_,rfl,xbab⟩,trivial⟩ fun xs obs y h hp=>by unfold KVRInt at h;split at h<;>cases h;exact tr (xb70 _ hp)
def xbwi:TK xbco:=tc0 EVNumber KVNumber xbm8 Tryz.func53 fun xs obs y h hp=>by unfold KVNumber at h;split at h<;>cases h;exact tr (xbux _ hp)
def xbwj:TK xbcp:=tc0 xbxl xbc2 xbwi Tryz.func52 fun xs obs y h hp=>by unfold xbc2 at h;split at h<;>cases h;exact tr (xbl5 _ _ _ hp)
def xbwg:TK xbcn:=tc0 xbxm xbc3 xbwj Tryz.func137 fun xs obs y h hp=>by unfold xbc3 at h;split at h<;>cases h;exact tr (xb1k _ _ _ hp)
def xbii:TK qw9:=tc0 xbxk xbc1 xbwg Tryz.func25 fun xs obs y h hp=>by unfold xbc1 at h;split at h<;>cases h;exact tr (xb1i _ _ _ hp)
def xb33:TK xbq4:=tc0 xbj5 qxk xbii Tryz.func140 fun xs obs y h hp=>by unfold qxk at h;split at h<;>cases h;exact tr (xbl3 _ _ _ hp)
def xb35:TK BVMade:=tc0 xb5k xbrt xb33 Tryz.func93 fun xs obs y h hp=>by unfold xbrt at h;split at h<;>cases h;exact tr (xb7v _ _ _ hp)
def xca2:TK BVId:=tc0 EVMade KVMade xb35 Tryz.func155 fun xs obs y h hp=>by unfold KVMade at h;split at h<;>cases h;exact tr (xb7x _ _ hp)
def xbwe:TK BVBytes:=tc0 EVId KVId xca2 Tryz.func118 fun xs obs y h hp=>by unfold KVId at h;split at h<;>cases h;exact tr (nVId _ hp)
def xbwh:TK BVRMade:=tc0 EVBytes KVBytes xbwe Tryz.func119 fun xs obs y h hp=>by unfold KVBytes at h;split at h<;>cases h;exact tr (xb1g _ hp)
def xb8p:TK BVRId:=tc0 EVRMade KVRMade xbwh Tryz.func153 fun xs obs y h hp=>by unfold KVRMade at h;split at h<;>cases h;exact tr (xb1j _ _ hp)
def xbm9:TK BVRBytes:=tc0 EVRId KVRId xb8p Tryz.func112 fun xs obs y h hp=>by unfold KVRId at h;split at h<;>cases h;exact tr (xcau _ hp)
def xbwf:TK BVClone:=tc0 EVRBytes KVRBytes xbm9 Tryz.func113 fun xs obs y h hp=>by unfold KVRBytes at h;split at h<;>cases h;exact tr (xbuy _ hp)
def xb8q:TK BVSeq:=tc0 EVClone KVClone xbwf Tryz.func51 fun xs obs y h hp=>by unfold KVClone at h;split at h<;>cases h;exact tr (xb1h _ hp)
def xb8n:TK BVBox:=tc0 EVSeq KVSeq xb8q Tryz.func70 fun xs obs y h hp=>by unfold KVSeq at h;split at h<;>cases h;exact tr (xcav _ hp)
def xb34:TK BVKids:=tc0 EVBox KVBox xb8n Tryz.func165 fun xs obs y h hp=>by unfold KVBox at h;split at h<;>cases h;exact tr (xcas _ _ hp)
def xb39:TK BVRSeq:=tc0 EVKids KVKids xb34 Tryz.func24 fun xs obs y h hp=>by unfold KVKids at h;split at h<;>cases h;exact tr (xb7w _ _ _ _ hp)
def xb37:TK BVRBox:=tc0 EVRSeq KVRSeq xb39 Tryz.func64 fun xs obs y h hp=>by unfold KVRSeq at h;split at h<;>cases h;exact tr (xb71 _ hp)
def xb79:TK BAAll:=tc0 EVRBox KVRBox xb37 Tryz.func130 fun xs obs y h hp=>by unfold KVRBox at h;split at h<;>cases h;exact tr (xb7z _ _ hp)
def q6e:TK BAFound:=tc0 EAAll KAAll xb79 Tryz.func138 fun xs obs y h hp=>by unfold KAAll at h;split at h<;>cases h;exact tr (xcae hp)
def xbik(hm:MX): ∀xs obs ys,q54 xs obs=true->xbac xs obs=some ys->xbxo Tryz.prog qa9 175 xs obs ys:=by
 intro xs obs ys hp h;unfold xbac at h;split at h
 ·cases h;have hE: ∀(l:Nat) (g:FuncId),Sound Tryz.prog (xbcs l).glob g (ctr (xbcs l) g):=fun l g=>(qao (q6e hm 176) qcq);refine q9i (N:=40) xbcs hE hm (fun _=>rfl) (fun _=>rfl) (fun _=>rfl) Tryz.func175 rfl xbgq (fun _=>rfl) (by decide) rfl fun l=> ?_;obtain⟨out,h1,h2⟩:=xb6k l hp;exact⟨out,(xbku l).trans h1,h2⟩
 ·cases h
def xbwv(hm:MX):qdp Tryz.prog EAFound:=by
 intro gf xs obs ys hp h;have h:(cond (Nat.beq gf 175) xbac (fun _ _=>none)) xs obs=some ys:=h
 cases hb:Nat.beq gf 175 with
 | false=>rw[hb] at h;cases h
 | true=>
  obtain rfl:=qag.1 hb;exact⟨xbik hm xs obs ys hp h,_,Tryz.func175,rfl,rfl⟩
def xbbw(hm:MX):OKS 116 qz1 SAFound:=
 qcp (E:=EAFound) (N:=40) (keep:=false) hm (fun g=>(qao (q6e hm 138) quq)) Tryz.func116 rfl rfl xba4 rfl (hsq:=xbwv hm) (hS:=by
  intro xs obs out hp h;unfold SAFound at h;split at h
  ·refine⟨by simp[Tryz.f116], ?_⟩;rw[xber];exact(xb0d _ hp).trans h
  ·cases h)
def xbvk:TK BAGroup:=fun hm=>tabC (K:=ofS qz1 SAFound) (xbbw hm) (q6e hm)
def xca0:TK BAId:=tc0 EAGroup KAGroup xbvk Tryz.func96 fun xs obs y h hp=>by unfold KAGroup at h;split at h<;>cases h;exact tr (xb0e _ hp)
def xb8a:TK BAOf:=tc0 EAId KAId xca0 Tryz.func164 fun xs obs y h hp=>by unfold KAId at h;split at h<;>cases h;exact tr (nAId _ hp)
def xca3(hm:MX):qdp Tryz.prog EAOf:=by
 intro gf xs obs ys hp h;have h:(cond (Nat.beq gf 175) xbac (fun _ _=>none)) xs obs=some ys:=h
 cases hb:Nat.beq gf 175 with
 | false=>rw[hb] at h;cases h
 | true=>
  obtain rfl:=qag.1 hb;exact⟨xbik hm xs obs ys hp h,_,Tryz.func175,rfl,rfl⟩
def xbwt(hm:MX):OKS 94 xbu7 SAOf:=
 qcp (E:=EAOf) (N:=40) (keep:=false) hm (fun g=>(qao (xb8a hm 138) (qao (xb8a hm 139) quq))) Tryz.func94 rfl rfl xbtp rfl (hsq:=xca3 hm) (hS:=by
  intro xs obs out hp h;unfold SAOf at h;split at h
  ·refine⟨by simp[Tryz.f94], ?_⟩;rw[xbx7];exact(nAOf _ hp).trans h
  ·cases h)
def xbmm:TK BARGroup:=fun hm=>tabC (K:=ofS xbu7 SAOf) (xbwt hm) (xb8a hm)
def xbvl:TK BARNist:=tcT EARGroup KARGroup xbmm Tryz.func108 [(false,11),(false,7),(false,5),(false,3)] ⟨⟨_,rfl,qxc⟩,⟨_,rfl,q0q⟩,⟨_,rfl,q0p⟩,⟨_,rfl,q0o⟩,trivial⟩ fun xs obs y h hp=>by unfold KARGroup at h;split at h<;>cases h;exact tr (xbtz _ hp)
def xbvn:TK BARPkcs:=tc0 EARNist KARNist xbvl Tryz.func151 fun xs obs y h hp=>by unfold KARNist at h;split at h<;>cases h;exact tr (xb0f _ _ hp)
def xb8b:TK BARId:=tc0 EARPkcs KARPkcs xbvn Tryz.func152 fun xs obs y h hp=>by unfold KARPkcs at h;split at h<;>cases h;exact tr (xb0h _ hp)
def xb2r:TK BAUsed:=tc0 EARId KARId xb8b Tryz.func110 fun xs obs y h hp=>by unfold KARId at h;split at h<;>cases h;exact tr (xcaf _ hp)
def xb2o:TK BANode:=tc0 EAUsed KAUsed xb2r Tryz.func117 fun xs obs y h hp=>by unfold KAUsed at h;split at h<;>cases h;exact tr (xb6j _ hp)
def xbvm:TK BARNode:=tc0 EANode KANode xb2o Tryz.func69 fun xs obs y h hp=>by unfold KANode at h;split at h<;>cases h;exact tr (xb6g _ _ hp)
def xb2q:TK BATail:=tc0 EARNode KARNode xbvm Tryz.func63 fun xs obs y h hp=>by unfold KARNode at h;split at h<;>cases h;exact tr (xb0g _ _ hp)
def xb2p:TK BARead:=tc0 EATail KATail xb2q Tryz.func95 fun xs obs y h hp=>by unfold KATail at h;split at h<;>cases h;exact tr (xb6i _ _ hp)
def xb3d:TK BMSize:=tc0 EARead KARead xb2p Tryz.func55 fun xs obs y h hp=>by unfold KARead at h;split at h<;>cases h;exact tr (xb6h _ _ _ hp)
def xbv4:TK BR9Size:=tc0 EMSize KMSize xb3d Tryz.func168 fun xs obs y h hp=>by unfold KMSize at h;split at h<;>cases h;exact tr (xb65 _ hp)
def xb8j:TK BFDig:=tc0 ER9Size KR9Size xbv4 Tryz.func131 fun xs obs y h hp=>by unfold KR9Size at h;split at h<;>cases h;exact tr (xb05 _ hp)
def xb8f:TK BEDig:=tc0 EFDig KFDig xb8j Tryz.func188 fun xs obs y h hp=>by unfold KFDig at h;split at h<;>cases h;exact tr (xcao _ _ hp)
def xb3v:TK xbq1:=tcT EEDig KEDig xb8f Tryz.func194 [(true,5)] ⟨⟨_,rfl,xbdb⟩,trivial⟩ fun xs obs y h hp=>by unfold KEDig at h;split at h<;>cases h;exact tr (xcak _ _ _ _ hp)
def xb27:TK BFPart:=tc0 xb5h xbrq xb3v Tryz.func187 fun xs obs y h hp=>by unfold xbrq at h;split at h<;>cases h;exact tr (xb7o _ _ _ _ hp)
def xbpz:TK BEPart:=tc0 EFPart KFPart xb27 Tryz.func186 fun xs obs y h hp=>by unfold KFPart at h;split at h<;>cases h;exact tr (xb6z _ _ hp)
def xbir(hm:MX):OKc Tryz.prog qa9 167 KEPart:=
 rs0 (E:=EEPart) (N:=40) (keep:=true) (xbpz hm) hm Tryz.func167 (by kernel_rfl) fun xs obs y h hp=>by unfold KEPart at h;split at h<;>cases h;exact tr (xb6r _ hp)
def xb8h:TK BEPar:=fun hm=>tabC (K:=KEPart) (xbir hm) (xbpz hm)
def xbvw:TK xbcl:=tcT EEPar KEPar xb8h Tryz.func166 [(true,5)] ⟨⟨_,rfl,xbdf⟩,trivial⟩ fun xs obs y h hp=>by unfold KEPar at h;split at h<;>cases h;exact tr (xcam _ _ _ _ hp)
def xb8g:TK BEMar:=tc0 xbxe xbcz xbvw Tryz.func127 fun xs obs y h hp=>by unfold xbcz at h;split at h<;>cases h;exact tr (xb0u _ _ _ hp)
def xb3w:TK xbq2:=tcT EEMar KEMar xb8g Tryz.func163 [(true,5)] ⟨⟨_,rfl,xbdd⟩,trivial⟩ fun xs obs y h hp=>by unfold KEMar at h;split at h<;>cases h;exact tr (xcal _ _ _ hp)
def xbmp:TK q3w:=tc0 xb5i xbrr xb3w Tryz.func126 fun xs obs y h hp=>by unfold xbrr at h;split at h<;>cases h;exact tr (xb7p _ _ _ hp)
def xb8e:TK BECha:=tc0 xbq7 q39 xbmp Tryz.func76 fun xs obs y h hp=>by unfold q39 at h;split at h<;>cases h;exact tr (xbud _ hp)
def xb3u:TK xbq0:=tcT EECha KECha xb8e Tryz.func125 [(true,5)] ⟨⟨_,rfl,xbc9⟩,trivial⟩ fun xs obs y h hp=>by unfold KECha at h;split at h<;>cases h;exact tr (xcaj _ _ _ hp)
def xbic:TK qw5:=tc0 xb5g xbrp xb3u Tryz.func75 fun xs obs y h hp=>by unfold xbrp at h;split at h<;>cases h;exact tr (xb7n _ _ _ hp)
def xbwc:TK xbnt:=tc0 xbj2 qxh xbic Tryz.func37 fun xs obs y h hp=>by unfold qxh at h;split at h<;>cases h;exact tr (xblu _ hp)
def xbih:TK qw8:=fun hm=>tabC (K:=ofS qrw xbdm) (xbb1 hm) (xbwc hm)
def xbm7:TK q36:=tcT qxb qxj xbih Tryz.func40 [(true,3),(true,11)] ⟨⟨_,rfl,qx6⟩,⟨_,rfl,qu8⟩,trivial⟩ fun xs obs y h hp=>by unfold qxj at h;split at h<;>cases h;exact tr (xbl2 _ hp)
def xb3z:TK xbq3:=tcT xbcu q4e xbm7 Tryz.func80 [(true,2)] ⟨⟨_,rfl,q04⟩,trivial⟩ fun xs obs y h hp=>by unfold q4e at h;split at h<;>cases h;exact tr (xbuw _ _ hp)
def xb8m:TK xb47:=tc0 xb5j xbrs xb3z Tryz.func41 fun xs obs y h hp=>by unfold xbrs at h;split at h<;>cases h;exact tr (xb7r _ _ hp)
def xbv9:TK xbcm:=tcT xb8y xb5l xb8m Tryz.func42 [(true,4)] ⟨⟨_,rfl,xbdj⟩,trivial⟩ fun xs obs y h hp=>by unfold xb5l at h;split at h<;>cases h;exact tr (xcar _ _ hp)
def xbid:TK BEDigests:=tcT xbnv xbc0 xbv9 Tryz.func32 [(true,4)] ⟨⟨_,rfl,q40⟩,trivial⟩ fun xs obs y h hp=>by unfold xbc0 at h;split at h<;>cases h;exact tr (xb1b _ _ hp)
def xbif:TK BRDigests:=tcT EEDigests KEDigests xbid Tryz.func21 [(true,3)] ⟨⟨_,rfl,qxn⟩,trivial⟩ fun xs obs y h hp=>by unfold KEDigests at h;split at h<;>cases h;exact tr (xblv _ hp)
def xb26:TK xbqt:=tcT ERDigests KRDigests xbif Tryz.func17 [(true,10),(true,6),(true,3)] ⟨⟨_,rfl,qu7⟩,⟨_,rfl,qxy⟩,⟨_,rfl,qxx⟩,trivial⟩ fun xs obs y h hp=>by unfold KRDigests at h;split at h<;>cases h;exact tr (xbl0 _ hp)
def xb8d:TK BEAlg:=tc0 xb49 xbri xb26 Tryz.func68 fun xs obs y h hp=>by unfold xbri at h;split at h<;>cases h;exact tr (xb6y _ hp)
def xb3t:TK xbqz:=tcT EEAlg KEAlg xb8d Tryz.func115 [(true,5)] ⟨⟨_,rfl,xbc7⟩,trivial⟩ fun xs obs y h hp=>by unfold KEAlg at h;split at h<;>cases h;exact tr (xcai _ _ _ hp)
def xb8i:TK BERec:=tc0 xb5f xbro xb3t Tryz.func67 fun xs obs y h hp=>by unfold xbro at h;split at h<;>cases h;exact tr (xb7m _ _ _ hp)
def xb20:TK BERFit:=tc0 EERec KERec xb8i Tryz.func35 fun xs obs y h hp=>by unfold KERec at h;split at h<;>cases h;exact tr (xcan _ _ hp)
def xbmt:TK BERBytes:=tc0 EERFit KERFit xb20 Tryz.func15 fun xs obs y h hp=>by unfold KERFit at h;split at h<;>cases h;exact tr (xb6s _ _ hp)
def xb3o:TK BRMark:=tc0 EERBytes KERBytes xbmt Tryz.func13 fun xs obs y h hp=>by unfold KERBytes at h;split at h<;>cases h;exact tr (xbuh _ _ hp)
def xbm0:TK BRChains:=tcT ERMark KRMark xb3o Tryz.func78 [(true,14),(true,8)] ⟨⟨_,rfl,q4x⟩,⟨_,rfl,q97⟩,trivial⟩ fun xs obs y h hp=>by unfold KRMark at h;split at h<;>cases h;exact tr (xb7h _ _ _ hp)
def xb8l:TK BRRec:=tcT ERChains KRChains xbm0 Tryz.func39 [(true,11),(true,5)] ⟨⟨_,rfl,qxw⟩,⟨_,rfl,q0x⟩,trivial⟩ fun xs obs y h hp=>by unfold KRChains at h;split at h<;>cases h;exact tr (xbuo _ hp)
def xb3p:TK BRRFit:=tcT ERRec KRRec xb8l Tryz.func34 [(true,6)] ⟨⟨_,rfl,xbdh⟩,trivial⟩ fun xs obs y h hp=>by unfold KRRec at h;split at h<;>cases h;exact tr (xcaq _ _ hp)
def xbvv:TK xbck:=tc0 ERRFit KRRFit xb3p Tryz.func12 fun xs obs y h hp=>by unfold KRRFit at h;split at h<;>cases h;exact tr (xb7i _ _ hp)
def xb23:TK xbqq:=tc0 xbxd xbcy xbvv Tryz.func143 fun xs obs y h hp=>by unfold xbcy at h;split at h<;>cases h;exact tr (xb0t _ _ _ hp)
def xb3a:TK xbqw:=tcT xbxh xbrf xb23 Tryz.func178 [(true,5)] ⟨⟨_,rfl,q92⟩,trivial⟩ fun xs obs y h hp=>by unfold xbrf at h;split at h<;>cases h;exact tr (xb6v _ _ _ hp)
def xbms:TK q3z:=tc0 xb5c xbrl xb3a Tryz.func142 fun xs obs y h hp=>by unfold xbrl at h;split at h<;>cases h;exact tr (xb62 _ _ _ _ hp)
def xb25:TK xbqs:=tc0 xbra q4c xbms Tryz.func99 fun xs obs y h hp=>by unfold q4c at h;split at h<;>cases h;exact tr (xbug _ _ _ hp)
def xb3c:TK xbqy:=tcT xbxj xbrh xb25 Tryz.func141 [(true,5)] ⟨⟨_,rfl,q94⟩,trivial⟩ fun xs obs y h hp=>by unfold xbrh at h;split at h<;>cases h;exact tr (xb6x _ _ _ hp)
def xbmq:TK q3x:=tc0 xb5e xbrn xb3c Tryz.func98 fun xs obs y h hp=>by unfold xbrn at h;split at h<;>cases h;exact tr (xb64 _ _ _ _ hp)
def xbmr:TK q3y:=tc0 xbq8 q4a xbmq Tryz.func100 fun xs obs y h hp=>by unfold q4a at h;split at h<;>cases h;exact tr (xbue _ _ _ hp)
def xb24:TK xbqr:=tc0 xbq9 q4b xbmr Tryz.func58 fun xs obs y h hp=>by unfold q4b at h;split at h<;>cases h;exact tr (xbuf _ _ _ hp)
def xb3b:TK xbqx:=tcT xbxi xbrg xb24 Tryz.func97 [(true,5)] ⟨⟨_,rfl,q93⟩,trivial⟩ fun xs obs y h hp=>by unfold xbrg at h;split at h<;>cases h;exact tr (xb6w _ _ _ hp)
def xbib:TK qw4:=tc0 xb5d xbrm xb3b Tryz.func57 fun xs obs y h hp=>by unfold xbrm at h;split at h<;>cases h;exact tr (xb63 _ _ _ _ hp)
def xb22:TK xbqp:=tc0 xbj1 qxg xbib Tryz.func29 fun xs obs y h hp=>by unfold qxg at h;split at h<;>cases h;exact tr (xblt _ _ _ hp)
def xb29:TK xbqv:=tcT xbxg xbre xb22 Tryz.func56 [(true,5)] ⟨⟨_,rfl,q91⟩,trivial⟩ fun xs obs y h hp=>by unfold xbre at h;split at h<;>cases h;exact tr (xb6u _ _ _ hp)
def xbvu:TK xbcj:=tc0 xb5b xbrk xb29 Tryz.func28 fun xs obs y h hp=>by unfold xbrk at h;split at h<;>cases h;exact tr (xb61 _ _ _ _ hp)
def xb21:TK xbqo:=tc0 xbxc xbcx xbvu Tryz.func27 fun xs obs y h hp=>by unfold xbcx at h;split at h<;>cases h;exact tr (xb0s _ _ _ hp)
def xb28:TK xbqu:=tcT xbxf xbrd xb21 Tryz.func54 [(true,5)] ⟨⟨_,rfl,q90⟩,trivial⟩ fun xs obs y h hp=>by unfold xbrd at h;split at h<;>cases h;exact tr (xb6t _ _ _ hp)
def xbvx:TK BEParse:=tc0 xb5a xbrj xb28 Tryz.func26 fun xs obs y h hp=>by unfold xbrj at h;split at h<;>cases h;exact tr (xb60 _ _ _ _ hp)
def xbv3:TK BR4Same:=tc0 EEParse KEParse xbvx Tryz.func8 fun xs obs y h hp=>by unfold KEParse at h;split at h<;>cases h;exact tr (xb0v _ hp)
def xbmz:TK BR38Same:=tcT ER4Same KR4Same xbv3 Tryz.func62 [(true,4)] ⟨⟨_,rfl,q4u⟩,trivial⟩ fun xs obs y h hp=>by unfold KR4Same at h;split at h<;>cases h;exact tr (xb04 _ _ hp)
def xbv7:TK BRESame:=tcT ER38Same KR38Same xbmz Tryz.func33 [(true,4)] ⟨⟨_,rfl,q0w⟩,trivial⟩ fun xs obs y h hp=>by unfold KR38Same at h;split at h<;>cases h;exact tr (xbun _ _ hp)
def xbm1:TK BRESmall:=tcT ERESame KRESame xbv7 Tryz.func10 [(true,9),(true,4)] ⟨⟨_,rfl,q4w⟩,⟨_,rfl,q4v⟩,trivial⟩ fun xs obs y h hp=>by unfold KRESame at h;split at h<;>cases h;exact tr (xb08 _ _ _ _ hp)
def xbwl:TK BWSmall:=tcT ERESmall KRESmall xbm1 Tryz.func16 [(true,16),(true,12),(true,7),(true,3)] ⟨⟨_,rfl,qx2⟩,⟨_,rfl,qx1⟩,⟨_,rfl,q0z⟩,⟨_,rfl,q0y⟩,trivial⟩ fun xs obs y h hp=>by unfold KRESmall at h;split at h<;>cases h;exact tr (xbup _ _ _ hp)
def xbwk:TK BWAwake:=tcT EWSmall KWSmall xbwl Tryz.func11 [(true,2)] ⟨⟨_,rfl,q46⟩,trivial⟩ fun xs obs y h hp=>by unfold KWSmall at h;split at h<;>cases h;exact tr (xb1n _ _ hp)
def q9h:TK q3v:=tc0 EWAwake KWAwake xbwk Tryz.func7 fun xs obs y h hp=>by unfold KWAwake at h;split at h<;>cases h;exact tr (xb1l hp)
def q6h(hm:MX):OKc Tryz.prog qa9 74 qxf:=
 rs (E:=xbct) (N:=40) (keep:=true) (q9h hm) hm Tryz.func74 (lsB (ids:=[(true,6)]) (by kernel_rfl) ⟨⟨_,rfl,q0s⟩,trivial⟩) fun xs obs y h hp=>by unfold qxf at h;split at h<;>cases h;exact tr (xbuc _ _ _ hp)
def q9g:TK q3u:=fun hm=>tabC (K:=qxf) (q6h hm) (q9h hm)
def q6g(hm:MX):OKc Tryz.prog qa9 36 qxe:=
 rs0 (E:=xbq5) (N:=40) (keep:=true) (q9g hm) hm Tryz.func36 (by kernel_rfl) fun xs obs y h hp=>by unfold qxe at h;split at h<;>cases h;exact tr (xbt6 _ _ _ hp)
def q3g:TK qw6:=fun hm=>tabC (K:=qxe) (q6g hm) (q9g hm)
def q3n(hm:MX):OKc Tryz.prog qa9 13 qq3:=
 rs0 (E:=xbj3) (N:=40) (keep:=true) (q3g hm) hm Tryz.func13 (by kernel_rfl) fun xs obs y h hp=>by unfold qq3 at h;split at h<;>cases h;exact tr (xblw _ _ hp)
def xb4a:TK BWBack:=fun hm=>tabC (K:=qq3) (q3n hm) (q3g hm)
def xbiw(hm:MX):OKS 4 qna SWBack:=
 xbto (E:=EWBack) (N:=40) (K:=ofS qna SWBack) (xb4a hm) hm Tryz.func4 wR0 wS1 wR3 wR4 wC5 wC6 wC8 wbR 27 1 2 5 6 94 66 xca5 (by kernel_rfl) (fun xs obs y h hp=>by
  have h:some (qna xs obs,SWBack xs obs)=some y:=h;cases h;have hp:qna xs obs=true:=hp;unfold qna at hp;split at hp
  ·obtain⟨r,K5,h1,h2,h3⟩:=xb72 _ _ _ hp;exact⟨rfl,r,K5,h1,(xbfv _ _ _ K5).trans h2,h3⟩
  ·cases hp) rfl rfl rfl
end Go.Proofs.YtoaakappnhemiaaGreatDoorA
