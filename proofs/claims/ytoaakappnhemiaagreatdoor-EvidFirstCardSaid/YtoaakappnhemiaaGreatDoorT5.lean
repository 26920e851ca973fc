/-
 The library's comparison of bytes: its contract holds. Conditions: none.
-/
import Derived.Test.YtoaakappnhemiaaGreatDoorT3b
import Derived.Lib.BytesEntry
import Derived.Test.YtoaakappnhemiaaGreatDoorK3
import Derived.Shelf.Spec.SlicesGrow
import Derived.Test.YtoaakappnhemiaaGreatDoorT4
set_option linter.unusedVariables false
set_option maxRecDepth 100000
set_option linter.unusedSimpArgs false
namespace Go.Proofs.YtoaakappnhemiaaGreatDoorA
theorem q80 {P:Program} {w:World} {Im:Nat->Prop} {l:List Int} {v:Value} (h:CRep w Im (.sli .u8 l) v):(Extern.Bytes.bytesOf v).run P w=.ok ⟨(Lib.bytesOf l).toArray⟩ w:=by
 cases h with
 | sli _ _ a len cap hl hc hcell=>
  cases a with
  | none=>
   have:l=[]:=by
    cases l with
    | nil=>rfl
    | cons x r=>obtain⟨ad,e,_⟩:=hcell 0 x rfl;cases e
   subst this
   rfl
  | some ad=>
   subst hl
   have:=Lib.run_loadBytesX (P:=P) w l ad .empty (fun j x hj=>by obtain⟨ad',e,_,hc⟩:=hcell j x hj;cases e;exact hc)
   refine this.trans ?_
   congr 1
   apply ByteArray.ext
   show(#[]:Array UInt8)++(Lib.bytesOf l).toArray=(Lib.bytesOf l).toArray
   simp
theorem q99: ∀(a b:List Int),(∀x∈a,0<=x/\x<=255)->(∀x∈b,0<=x/\x<=255)->Lib.compareBytes (Lib.bytesOf a) (Lib.bytesOf b)=qb0 a b
 | [],[],_,_=>rfl
 | [],_::_,_,_=>rfl
 | _::_,[],_,_=>rfl
 | x::a,y::b,ha,hb=>by
  have ih:=q99 a b (fun z hz=>ha z (zba _ hz)) (fun z hz=>hb z (zba _ hz))
  have hx:=ha x (zcg ..)
  have hy:=hb y (zcg ..)
  have e1:(UInt8.ofNat x.toNat<UInt8.ofNat y.toNat)↔x<y:=by
   rw[UInt8.lt_iff_toNat_lt,zdp,zdp]
   omega
  have e2:(UInt8.ofNat y.toNat<UInt8.ofNat x.toNat)↔y<x:=by
   rw[UInt8.lt_iff_toNat_lt,zdp,zdp]
   omega
  show(if UInt8.ofNat x.toNat<UInt8.ofNat y.toNat then(-1:Int) else if UInt8.ofNat y.toNat<UInt8.ofNat x.toNat then 1 else Lib.compareBytes (Lib.bytesOf a) (Lib.bytesOf b))=(if x<y then -1 else if y<x then 1 else qb0 a b)
  simp only[e1,e2,ih]
theorem xbs4 {P:Program} {w:World} {Im:Nat->Prop} {a b:List Int} {va vb:Value} (ha:CRep w Im (.sli .u8 a) va) (hb:CRep w Im (.sli .u8 b) vb) (h1: ∀x∈a,0<=x/\x<=255) (h2: ∀x∈b,0<=x/\x<=255):
  (Extern.BytealgCompare.compare #[va,vb]).run P w=.ok (.int .i64 (qb0 a b)) w:=by
 change Sem.run P (do pure (goInt (Extern.BytealgCompare.cmp (<- Extern.Bytes.bytesOf va) (<- Extern.Bytes.bytesOf vb)))) w=_
 simp only[Sem.run_bind,Sem.run_pure,q80 ha,q80 hb,Result.andThen]
 rw[Lib.cmp_eq]
 show Result.ok (Value.int .i64 (Lib.compareBytes (Lib.bytesOf a) (Lib.bytesOf b))) w=_
 rw[q99 a b h1 h2]
theorem qwb (hm:Tryz.prog.follows .mixedOrders=true):Sound Tryz.prog qa1 185 (fun xs obs=>cond (qh6 xs obs) (SBACompare xs obs).eval none):=by
 intro xs obs out w Im ρ bl vs hs hpre
 obtain⟨h1,h2⟩:=qaa hs
 unfold qh6 at h1
 split at h1
 ·rename_i a b
  simp only[zab] at h1
  have h2:some (Out.ret [.cl (.int .i64 (qgx a b))] [])=some out:=h2
  cases h2
  have hl:vs.length=2:=hpre.reps.1
  match vs,hl,hpre with
  | [va,vb],_,hpre=>
   have ra:CRep w Im (.sli .u8 a) va:=by have:=hpre.reps.2 0 _ _ rfl rfl;cases this;assumption
   have rb:CRep w Im (.sli .u8 b) vb:=by have:=hpre.reps.2 1 _ _ rfl rfl;cases this;assumption
   refine .inr ⟨.int .i64 (qgx a b),w, ?_,[.int .i64 (qgx a b)],Im,ρ,rfl,⟨Fr.refl w bl,hpre.gam,fun j o o' hj=>by cases hj⟩,rfl,fun j c v hj hv=> ?_⟩
   ·rw[run_callFunc_extern (e:=Extern.BytealgCompare.compare) Tryz.func185 rfl rfl rfl (by kernel_rfl)]
    show Result.andThen ((Extern.BytealgCompare.compare #[va,vb]).run Tryz.prog w) _=_
    rw[xbs4 ra rb (qal h1.1).2 (qal h1.2).2]
    unfold qgx
    rw[qab]
    rfl
   ·match j,hj,hv with
    | 0,hj,hv=>cases hj;cases hv;exact .cl _ _ (.int ..)
    | j+1,hj,hv=>cases hj
 ·cases h1
def qzd:Go.Shelf.Ren:=⟨fun _=>162,fun t=>cond (Nat.beq t 25) 5 (cond (Nat.beq t 22) 22 t),fun g=>g⟩
theorem xbai (hm:Tryz.prog.follows .mixedOrders=true):Lays8.n4 Tryz.prog qzd where
 mixed:=hm
 f4:=⟨Tryz.f162.name,by decide,by kernel_rfl⟩
 t0:=Tryz.underlying0
 a0:=fun w=>by kernel_rfl
 z0:=fun w=>by kernel_rfl
 v0:=fun w=>by kernel_rfl
 t3:=Tryz.underlying3
 a3:=fun w=>by kernel_rfl
 z3:=fun w=>by kernel_rfl
 v3:=fun w=>by kernel_rfl
 t4:=Tryz.underlying4
 a4:=fun w=>by kernel_rfl
 z4:=fun w=>by kernel_rfl
 v4:=fun w=>by kernel_rfl
 t9:=Tryz.underlying9
 a9:=fun w=>by kernel_rfl
 z9:=fun w=>by kernel_rfl
 v9:=fun w=>by kernel_rfl
 t20:=Tryz.underlying20
 a20:=fun w=>by kernel_rfl
 z20:=fun w=>by kernel_rfl
 v20:=fun w=>by kernel_rfl
 t22:=Tryz.underlying22
 a22:=fun w=>by kernel_rfl
 z22:=fun w=>by kernel_rfl
 v22:=fun w=>by kernel_rfl
theorem info5:(Tryz.prog.info? 5).map (fun i=>(i.zero,i.size,i.bytes))=some (some (.int .u8 0),1,1):=by kernel_rfl
theorem xbad {bl:Nat->Prop} {w w':World} {Im:Nat->Prop} {ρ ρ':Nat->Loc} {l:Loc} (h:Gam w.heap.size bl Im w Im ρ []) (hsz:w.heap.size<=w'.heap.size) (hρ:ρ' 0=l) (ho:ORep w' Im ρ' (shOf [(0,⟨.ints .u8 [],false⟩)]) (.ints .u8 []) l) (hl: ∀b x y,l=some (b,x,y)->b<w'.heap.size/\¬Im b/\w.heap.size<=b):
  Gam w.heap.size bl Im w' Im ρ' [(0,⟨.ints .u8 [],false⟩)]:=by
 have one: ∀(p:Nat) (o:Obj),qak ([(0,⟨.ints .u8 [],false⟩)]:Heap) p=some o->p=0/\o=⟨.ints .u8 [],false⟩:=fun p o hp=>by
  simp only[qak] at hp
  cases hb:Nat.beq 0 p with
  | true=>rw[hb] at hp;cases hp;exact⟨(qaf.1 hb).symm,rfl⟩
  | false=>rw[hb] at hp;cases hp
 refine⟨fun b hb=>za8 (h.im b hb) hsz,h.i0,fun p o hp=> ?_,fun p q o o' b x y x' y' hp hq _ _ hne=> ?_,fun p o b x y hp hr=> ?_,h.imo⟩
 ·obtain⟨rfl,rfl⟩:=one p o hp
  rw[hρ]
  exact ho
 ·exact absurd ((one p o hp).1.trans (one q o' hq).1.symm) hne
 ·obtain⟨rfl,rfl⟩:=one p o hp
  rw[hρ] at hr
  obtain⟨h1,h2,h3⟩:=hl b x y hr
  exact⟨h1,fun e=>absurd e zb2,fun _=>⟨h2,.inr h3⟩⟩
theorem q85 (hm:Tryz.prog.follows .mixedOrders=true):Sound Tryz.prog qa1 162 (fun xs obs=>cond (quv xs obs) (SSGrow xs obs).eval none):=by
 intro xs obs out w Im ρ bl vs hs hpre
 obtain⟨h1,h2⟩:=qaa hs
 unfold quv at h1
 split at h1
 ·rename_i n
  have h2:some (Out.ret [.ref 0 0 0 true 1] [some ⟨.ints .u8 qa0,false⟩])=some out:=h2
  cases h2
  have hn:0<=n/\n<=100000000:=by unfold qyj at h1;rw[qab] at h1;exact of_decide_eq_true h1
  obtain⟨m,rfl⟩: ∃m:Nat,n=m:=⟨n.toNat,by omega⟩
  have hl:vs.length=2:=hpre.reps.1
  match vs,hl,hpre with
  | [va,vb],_,hpre=>
   have ra:=hpre.reps.2 0 _ _ rfl rfl
   have rb:=hpre.reps.2 1 _ _ rfl rfl
   cases ra
   obtain rfl:vb=.int .i64 m:=by
    cases rb with
    | cl _ _ h=>cases h;rfl
   refine .inl ⟨?_, ?_⟩
   ·have hn': ¬Tryz.f162.name= "runtime.NumGoroutine" :=of_decide_eq_true (by kernel_rfl)
    obtain⟨c,hc⟩: ∃c,Tryz.f162.body=some c:=⟨_,rfl⟩
    simp[callFunc,Tryz.func162,hn',hc]
   ·have e:qa0=[]:=qab _
    rw[e]
    have hg:Gam w.heap.size bl Im w Im ρ []:=hpre.gam
    by_cases hz:m=0
    ·subst hz
     refine(Any8.slices_Grow_room (xbai hm) none 0 0 0 w (zar _) (by omega) (by omega) (zar _)).mono fun e w' ⟨he,hw⟩=> ?_
     subst he
     subst hw
     refine⟨[.slice none 0 0],Im,fun _=>none,rfl,⟨Fr.refl _ bl,xbad hg (zar _) rfl ⟨rfl,rfl,trivial⟩ (fun b x y h=>by cases h),fun j o o' hj=>by cases hj⟩,rfl,fun j c v hj hv=> ?_⟩
     match j,hj,hv with
     | 0,hj,hv=>cases hj;cases hv;exact .refV 0 ⟨0,1,false⟩ true 1 rfl rfl rfl rfl
     | j+1,hj,hv=>cases hj
    ·obtain⟨i0,hi0,hi⟩:=zak.1 info5
     simp only[za4] at hi
     obtain⟨hi1,hi2,hi3⟩:=hi
     refine(Any8.slices_Grow_grow (xbai hm) i0 (.int .u8 0) hi0 hi1 (by omega) none 0 0 m [] w (zar _) (by omega) (by rw[hi3];omega) (by omega) (by simp) (fun _=>rfl) (fun a h=>by cases h)).mono fun e w' ⟨he,hw⟩=> ?_
     have hG:0+m<=grownCap w (0+m) 0 (qzd.t 25):=grownCap_ge w _ _ _
     generalize grownCap w (0+m) 0 (qzd.t 25)=G at*
     subst he
     generalize hcs:([]:List Value).toArray++Builtin.zeroCells (Value.int .u8 0).cells (0+m - 0)++Builtin.zeroCells (Value.int .u8 0).cells (G - (0+m))=cs at hw
     have hsz:cs.size=G:=by
      rw[<- hcs,zdg,zdg,size_zeroCells,size_zeroCells]
      simp[Value.cells]
      omega
     have hheap:w'.heap=w.heap.push (.cells cs (qzd.t 25) (0,0)):=by rw[hw];rfl
     have hb:w'.heap[w.heap.size]? =some (.cells cs (qzd.t 25) (0,0)):=by rw[hheap];simp
     have hFr:Fr w bl w':=by
      refine⟨by rw[hw];rfl,by rw[hw];rfl,by rw[hw];rfl,by rw[hheap,zdk];omega,fun b hb' _=>by rw[hheap,zdj,if_neg (by omega)]⟩
     refine⟨[.slice (some ⟨w.heap.size,0,none⟩) 0 G],Im,fun _=>some (w.heap.size,0,G),rfl,⟨hFr,xbad hg hFr.size rfl ⟨trivial,by rw[hheap];simp,zbc _,fun i hi=>⟨?_, ?_⟩,fun j c hj=>by simp[qah] at hj⟩ (fun b x y h=> ?_),fun j o o' hj=>by cases hj⟩,rfl,fun j c v hj hv=> ?_⟩
     ·simp[World.cell?,hb,hsz,hi]
     ·simp[World.frozen?,hb]
     ·cases h
      exact⟨by rw[hheap];simp,fun hI=>Nat.lt_irrefl _ (hg.im _ hI),zar _⟩
     ·match j,hj,hv with
      | 0,hj,hv=>
       cases hj
       cases hv
       exact .ref 0 0 0 true 1 ⟨0,1,false⟩ w.heap.size 0 G ⟨w.heap.size,0,none⟩ G rfl rfl rfl (zbc _) (zar _) (fun _=>rfl) (fun _=>rfl) (by omega)
      | j+1,hj,hv=>cases hj
 ·cases h1
def qq4:Go.Shelf.Ren:=⟨fun _=>79,fun t=>cond (Nat.beq t 25) 68 (cond (Nat.beq t 22) 40 t),fun g=>g⟩
theorem q5v (hm:Tryz.prog.follows .mixedOrders=true):Lays8.n4 Tryz.prog qq4 where
 mixed:=hm
 f4:=⟨Tryz.f79.name,by decide,by kernel_rfl⟩
 t0:=Tryz.underlying0
 a0:=fun w=>by kernel_rfl
 z0:=fun w=>by kernel_rfl
 v0:=fun w=>by kernel_rfl
 t3:=Tryz.underlying3
 a3:=fun w=>by kernel_rfl
 z3:=fun w=>by kernel_rfl
 v3:=fun w=>by kernel_rfl
 t4:=Tryz.underlying4
 a4:=fun w=>by kernel_rfl
 z4:=fun w=>by kernel_rfl
 v4:=fun w=>by kernel_rfl
 t9:=Tryz.underlying9
 a9:=fun w=>by kernel_rfl
 z9:=fun w=>by kernel_rfl
 v9:=fun w=>by kernel_rfl
 t20:=Tryz.underlying20
 a20:=fun w=>by kernel_rfl
 z20:=fun w=>by kernel_rfl
 v20:=fun w=>by kernel_rfl
 t22:=Tryz.underlying40
 a22:=fun w=>by kernel_rfl
 z22:=fun w=>by kernel_rfl
 v22:=fun w=>by kernel_rfl
theorem xb03:(Tryz.prog.info? 68).map (fun i=>(i.zero,i.size,i.bytes))=some (some (.agg #[.int .i64 0,.slice none 0 0,.slice none 0 0]),3,56):=by kernel_rfl
theorem q3t {bl:Nat->Prop} {w w':World} {Im:Nat->Prop} {ρ ρ':Nat->Loc} {l:Loc} (h:Gam w.heap.size bl Im w Im ρ []) (hsz:w.heap.size<=w'.heap.size) (hρ:ρ' 0=l) (ho:ORep w' Im ρ' (shOf [(0,⟨.gen 3 [],false⟩)]) (.gen 3 []) l) (hl: ∀b x y,l=some (b,x,y)->b<w'.heap.size/\¬Im b/\w.heap.size<=b):
  Gam w.heap.size bl Im w' Im ρ' [(0,⟨.gen 3 [],false⟩)]:=by
 have one: ∀(p:Nat) (o:Obj),qak ([(0,⟨.gen 3 [],false⟩)]:Heap) p=some o->p=0/\o=⟨.gen 3 [],false⟩:=fun p o hp=>by
  simp only[qak] at hp
  cases hb:Nat.beq 0 p with
  | true=>rw[hb] at hp;cases hp;exact⟨(qaf.1 hb).symm,rfl⟩
  | false=>rw[hb] at hp;cases hp
 refine⟨fun b hb=>za8 (h.im b hb) hsz,h.i0,fun p o hp=> ?_,fun p q o o' b x y x' y' hp hq _ _ hne=> ?_,fun p o b x y hp hr=> ?_,h.imo⟩
 ·obtain⟨rfl,rfl⟩:=one p o hp
  rw[hρ]
  exact ho
 ·exact absurd ((one p o hp).1.trans (one q o' hq).1.symm) hne
 ·obtain⟨rfl,rfl⟩:=one p o hp
  rw[hρ] at hr
  obtain⟨h1,h2,h3⟩:=hl b x y hr
  exact⟨h1,fun e=>absurd e zb2,fun _=>⟨h2,.inr h3⟩⟩
theorem q7c (hm:Tryz.prog.follows .mixedOrders=true):Sound Tryz.prog qa1 79 (fun xs obs=>cond (qpo xs obs) (xbax xs obs).eval none):=by
 intro xs obs out w Im ρ bl vs hs hpre
 obtain⟨h1,h2⟩:=qaa hs
 unfold qpo at h1
 split at h1
 ·rename_i n
  have h2:some (Out.ret [.ref 0 0 0 true 3] [some ⟨.gen 3 qb2,false⟩])=some out:=h2
  cases h2
  have hn:0<=n/\n<=100000000:=by unfold qyj at h1;rw[qab] at h1;exact of_decide_eq_true h1
  obtain⟨m,rfl⟩: ∃m:Nat,n=m:=⟨n.toNat,by omega⟩
  have hl:vs.length=2:=hpre.reps.1
  match vs,hl,hpre with
  | [va,vb],_,hpre=>
   have ra:=hpre.reps.2 0 _ _ rfl rfl
   have rb:=hpre.reps.2 1 _ _ rfl rfl
   cases ra
   obtain rfl:vb=.int .i64 m:=by
    cases rb with
    | cl _ _ h=>cases h;rfl
   refine .inl ⟨?_, ?_⟩
   ·have hn': ¬Tryz.f79.name= "runtime.NumGoroutine" :=of_decide_eq_true (by kernel_rfl)
    obtain⟨c,hc⟩: ∃c,Tryz.f79.body=some c:=⟨_,rfl⟩
    simp[callFunc,Tryz.func79,hn',hc]
   ·have e:qb2=[]:=qab _
    rw[e]
    have hg:Gam w.heap.size bl Im w Im ρ []:=hpre.gam
    by_cases hz:m=0
    ·subst hz
     refine(Any8.slices_Grow_room (q5v hm) none 0 0 0 w (zar _) (by omega) (by omega) (zar _)).mono fun e w' ⟨he,hw⟩=> ?_
     subst he
     subst hw
     refine⟨[.slice none 0 0],Im,fun _=>none,rfl,⟨Fr.refl _ bl,q3t hg (zar _) rfl ⟨rfl,rfl,fun c hc=>nomatch hc⟩ (fun b x y h=>by cases h),fun j o o' hj=>by cases hj⟩,rfl,fun j c v hj hv=> ?_⟩
     match j,hj,hv with
     | 0,hj,hv=>cases hj;cases hv;exact .refV 0 ⟨0,3,false⟩ true 3 rfl rfl rfl rfl
     | j+1,hj,hv=>cases hj
    ·obtain⟨i0,hi0,hi⟩:=zak.1 xb03
     simp only[za4] at hi
     obtain⟨hi1,hi2,hi3⟩:=hi
     refine(Any8.slices_Grow_grow (q5v hm) i0 (.agg #[.int .i64 0,.slice none 0 0,.slice none 0 0]) hi0 hi1 (by omega) none 0 0 m [] w (zar _) (by omega) (by rw[hi3];omega) (by omega) (by simp) (fun _=>rfl) (fun a h=>by cases h)).mono fun e w' ⟨he,hw⟩=> ?_
     have hG:0+m<=grownCap w (0+m) 0 (qq4.t 25):=grownCap_ge w _ _ _
     generalize grownCap w (0+m) 0 (qq4.t 25)=G at*
     subst he
     generalize hcs:([]:List Value).toArray++Builtin.zeroCells (Value.agg #[.int .i64 0,.slice none 0 0,.slice none 0 0]).cells (0+m - 0)++Builtin.zeroCells (Value.agg #[.int .i64 0,.slice none 0 0,.slice none 0 0]).cells (G - (0+m))=cs at hw
     have hsz:cs.size=G*3:=by
      rw[<- hcs,zdg,zdg,size_zeroCells,size_zeroCells]
      simp[Value.cells]
      omega
     have hheap:w'.heap=w.heap.push (.cells cs (qq4.t 25) (0,0)):=by rw[hw];rfl
     have hb:w'.heap[w.heap.size]? =some (.cells cs (qq4.t 25) (0,0)):=by rw[hheap];simp
     have hFr:Fr w bl w':=by
      refine⟨by rw[hw];rfl,by rw[hw];rfl,by rw[hw];rfl,by rw[hheap,zdk];omega,fun b hb' _=>by rw[hheap,zdj,if_neg (by omega)]⟩
     refine⟨[.slice (some ⟨w.heap.size,0,none⟩) 0 G],Im,fun _=>some (w.heap.size,0,G*3),rfl,⟨hFr,q3t hg hFr.size rfl ⟨(fun c hc=>nomatch hc),by rw[hheap];simp,zbc _,fun i hi=>⟨?_, ?_⟩,fun j c hj=>by simp[qah] at hj⟩ (fun b x y h=> ?_),fun j o o' hj=>by cases hj⟩,rfl,fun j c v hj hv=> ?_⟩
     ·simp[World.cell?,hb,hsz,hi]
     ·simp[World.frozen?,hb]
     ·cases h
      exact⟨by rw[hheap];simp,fun hI=>Nat.lt_irrefl _ (hg.im _ hI),zar _⟩
     ·match j,hj,hv with
      | 0,hj,hv=>
       cases hj
       cases hv
       exact .ref 0 0 0 true 3 ⟨0,3,false⟩ w.heap.size 0 (G*3) ⟨w.heap.size,0,none⟩ G rfl rfl rfl (zbc _) (zar _) (fun _=>rfl) (fun _=>rfl) (by omega)
      | j+1,hj,hv=>cases hj
 ·cases h1
theorem qer {P:Program} {glob:Nat->Option CV} {g:FuncId} {p:List V->List Obj->Bool} {q:Nat->List V->List Obj->Bool} {S:List V->List Obj->Tree} (h: ∀rk,Sound P glob g (fun xs obs=>cond (q rk xs obs) (S xs obs).eval none)) (hp: ∀xs obs,p xs obs=true->∃rk,q rk xs obs=true):
  Sound P glob g (fun xs obs=>cond (p xs obs) (S xs obs).eval none):=by
 intro xs obs out w Im ρ bl vs hs
 obtain⟨h1,h2⟩:=qaa hs
 obtain⟨rk,hq⟩:=hp xs obs h1
 exact h rk xs obs out w Im ρ bl vs (by show cond (q rk xs obs) _ _=_;rw[hq];exact h2)
theorem qhh {P:Program} {glob:Nat->Option CV} {g:FuncId} {p:List V->List Obj->Bool} {S:List V->List Obj->Tree} (h: ∀xs obs, ¬p xs obs=true):Sound P glob g (fun xs obs=>cond (p xs obs) (S xs obs).eval none):=by
 intro xs obs out w Im ρ bl vs hs
 exact absurd (qaa hs).1 (h xs obs)
theorem qqe {P:Program} {glob:Nat->Option CV} {g:FuncId} {p:List V->List Obj->Bool}:Sound P glob g (fun xs obs=>cond (p xs obs) ((fun _ _=>Tree.fail:List V->List Obj->Tree) xs obs).eval none):=by
 intro xs obs out w Im ρ bl vs hs
 cases(qaa hs).2
abbrev MX:Prop:=Tryz.prog.follows .mixedOrders=true
abbrev TK (B:Nat->Ct):Prop:=xbfk Tryz.prog qa1 B
abbrev OKS (g:FuncId) (p:List V->List Obj->Bool) (S:List V->List Obj->Tree):Prop:=Sound Tryz.prog qa1 g (fun xs obs=>cond (p xs obs) (S xs obs).eval none)
theorem xbqv (hm:MX):TK BDigits:=tab0
theorem xbtd (hm:MX):TK BDLeap:=tc0 EDigits KDigits (xbqv hm) hm Tryz.func172 fun xs obs y h hp=>by
  unfold KDigits at h
  split at h
  ·cases h;exact⟨rfl,.trans (by kernel_rfl) (xbx1 _ hp)⟩
  ·cases h
theorem xbze (hm:MX):TK BDDays:=tc0 EDLeap KDLeap (xbtd hm) hm Tryz.func195 fun xs obs y h hp=>by
  unfold KDLeap at h
  split at h
  ·cases h;rename_i a b c d e f;exact⟨rfl,.trans (by kernel_rfl) (xb3e a b c d e f hp)⟩
  ·cases h
theorem xbz3 (hm:MX):TK BDFit:=tc0 EDDays KDDays (xbze hm) hm Tryz.func191 fun xs obs y h hp=>by
  unfold KDDays at h
  split at h
  ·cases h;rename_i a b c d e f;exact⟨rfl,.trans (by kernel_rfl) (xb0v a b c d e f hp)⟩
  ·cases h
theorem xbvx (hm:MX):TK BDSecs:=tc0 EDFit KDFit (xbz3 hm) hm Tryz.func173 fun xs obs y h hp=>by
  unfold KDFit at h
  split at h
  ·cases h;exact⟨rfl,.trans (by kernel_rfl) (xb4u _ _ _ _ _ _ hp)⟩
  ·cases h
theorem xbwb (hm:MX):TK BSRead:=tc0 EDSecs KDSecs (xbvx hm) hm Tryz.func174 fun xs obs y h hp=>by
  unfold KDSecs at h
  split at h
  ·cases h;exact⟨rfl,.trans (by kernel_rfl) (xb16 _ _ _ _ _ _ hp)⟩
  ·cases h
theorem xbtw (hm:MX):TK BRLeap:=tc0 ESRead KSRead (xbwb hm) hm Tryz.func136 fun xs obs y h hp=>by
  unfold KSRead at h
  split at h
  ·cases h;exact⟨rfl,.trans (by kernel_rfl) (xb02 _ hp)⟩
  ·cases h
theorem xbuv (hm:MX):TK BRDays:=tc0 ERLeap KRLeap (xbtw hm) hm Tryz.func193 fun xs obs y h hp=>by
  unfold KRLeap at h
  split at h
  ·cases h;exact⟨rfl,.trans (by kernel_rfl) (xb0z _ hp)⟩
  ·cases h
theorem xbqc (hm:MX):TK BRYears:=tc0 ERDays KRDays (xbuv hm) hm Tryz.func181 fun xs obs y h hp=>by
  unfold KRDays at h
  split at h
  ·cases h;exact⟨rfl,.trans (by kernel_rfl) (xb2b _ _ hp)⟩
  ·cases h
theorem xbg6 (hm:MX):TK BRNumber:=tc0 ERYears KRYears (xbqc hm) hm Tryz.func182 fun xs obs y h hp=>by
  unfold KRYears at h
  split at h
  ·cases h;exact⟨rfl,.trans (by kernel_rfl) (xbzn _ hp)⟩
  ·cases h
theorem xbty (hm:MX):TK BRRead:=tcT ERNumber KRNumber (xbg6 hm) hm Tryz.func180 [(true,3)] ⟨⟨_,rfl,qzk⟩,trivial⟩ fun xs obs y h hp=>by
  unfold KRNumber at h
  split at h
  ·cases h;exact⟨rfl,.trans (by kernel_rfl) (xbm8 _ hp)⟩
  ·cases h
theorem xbq8 (hm:MX):TK BDBoxed:=tcT ERRead KRRead (xbty hm) hm Tryz.func148 [(true,13)] ⟨⟨_,rfl,q1a⟩,trivial⟩ fun xs obs y h hp=>by
  unfold KRRead at h
  split at h
  ·cases h;exact⟨rfl,.trans (by kernel_rfl) (xb1p _ hp)⟩
  ·cases h
theorem xbo0 (hm:MX):TK BRBoxed:=tc0 EDBoxed KDBoxed (xbq8 hm) hm Tryz.func50 fun xs obs y h hp=>by
  unfold KDBoxed at h
  split at h
  ·cases h;exact⟨rfl,.trans (by kernel_rfl) (xbva _ hp)⟩
  ·cases h
theorem xbpn (hm:MX):TK BDKnown:=tc0 ERBoxed KRBoxed (xbo0 hm) hm Tryz.func103 fun xs obs y h hp=>by
  unfold KRBoxed at h
  split at h
  ·cases h;exact⟨rfl,.trans (by kernel_rfl) (xbx2 _ hp)⟩
  ·cases h
theorem xbhd (hm:MX):TK BRTagged:=tc0 EDKnown KDKnown (xbpn hm) hm Tryz.func87 fun xs obs y h hp=>by
  unfold KDKnown at h
  split at h
  ·cases h;exact⟨rfl,.trans (by kernel_rfl) (xbvj _ hp)⟩
  ·cases h
theorem xbdc (hm:MX):TK qxh:=tc0 ERTagged KRTagged (xbhd hm) hm Tryz.func101 fun xs obs y h hp=>by
  unfold KRTagged at h
  split at h
  ·cases h;exact⟨rfl,.trans (by kernel_rfl) (xbps _ hp)⟩
  ·cases h
theorem xbh2 (hm:MX):TK BDNumber:=tc0 xbis qmp (xbdc hm) hm Tryz.func121 fun xs obs y h hp=>by
  unfold qmp at h
  split at h
  ·cases h;exact⟨rfl,.trans (by kernel_rfl) (xbhy _ hp)⟩
  ·cases h
theorem xbfn (hm:MX):TK q09:=tc0 EDNumber KDNumber (xbh2 hm) hm Tryz.func132 fun xs obs y h hp=>by
  unfold KDNumber at h
  split at h
  ·cases h;exact⟨rfl,.trans (by kernel_rfl) (xbq5 _ hp)⟩
  ·cases h
theorem xbm0 (hm:MX):TK BDStrip:=tc0 xbq9 q2m (xbfn hm) hm Tryz.func145 fun xs obs y h hp=>by
  unfold q2m at h
  split at h
  ·cases h;exact⟨rfl,.trans (by kernel_rfl) (xbrl _ hp)⟩
  ·cases h
theorem xbe1 (hm:MX):TK qu1:=tc0 EDStrip KDStrip (xbm0 hm) hm Tryz.func133 fun xs obs y h hp=>by
  unfold KDStrip at h
  split at h
  ·cases h;exact⟨rfl,.trans (by kernel_rfl) (xbyq _ hp)⟩
  ·cases h
theorem xbxf (hm:MX):TK BRCont:=tc0 xbfp qvw (xbe1 hm) hm Tryz.func146 fun xs obs y h hp=>by
  unfold qvw at h
  split at h
  ·cases h;exact⟨rfl,.trans (by kernel_rfl) (xbgs _ hp)⟩
  ·cases h
theorem xbxg (hm:MX):TK BRRune:=tc0 ERCont KRCont (xbxf hm) hm Tryz.func192 fun xs obs y h hp=>by
  unfold KRCont at h
  split at h
  ·cases h;exact⟨rfl,.trans (by kernel_rfl) (xb0s _ _ hp)⟩
  ·cases h
theorem xbvv (hm:MX):TK BRUtf8:=tcT ERRune KRRune (xbxg hm) hm Tryz.func179 [(false,10),(false,8)] ⟨⟨_,rfl,q0d⟩,⟨_,rfl,q8i⟩,trivial⟩ fun xs obs y h hp=>by
  unfold KRRune at h
  split at h
  ·cases h;exact⟨rfl,.trans (by kernel_rfl) (xb27 _ _ hp)⟩
  ·cases h
theorem xb2z (hm:MX):TK BOFit:=tcT ERUtf8 KRUtf8 (xbvv hm) hm Tryz.func147 [(true,2)] ⟨⟨_,rfl,q6a⟩,trivial⟩ fun xs obs y h hp=>by
  unfold KRUtf8 at h
  split at h
  ·cases h;exact⟨rfl,.trans (by kernel_rfl) (xb1j _ hp)⟩
  ·cases h
theorem xbw5 (hm:MX):TK BR2Fit:=tc0 EOFit KOFit (xb2z hm) hm Tryz.func170 fun xs obs y h hp=>by
  unfold KOFit at h
  split at h
  ·cases h;exact⟨rfl,.trans (by kernel_rfl) (xb5o _ hp)⟩
  ·cases h
theorem xbh9 (hm:MX):TK BR2First:=tc0 ER2Fit KR2Fit (xbw5 hm) hm Tryz.func150 fun xs obs y h hp=>by
  unfold KR2Fit at h
  split at h
  ·cases h;exact⟨rfl,.trans (by kernel_rfl) (xb2i _ hp)⟩
  ·cases h
theorem xbg8 (hm:MX):TK BONumber:=tc0 ER2First KR2First (xbh9 hm) hm Tryz.func149 fun xs obs y h hp=>by
  unfold KR2First at h
  split at h
  ·cases h;exact⟨rfl,.trans (by kernel_rfl) (xbno _ hp)⟩
  ·cases h
theorem qzy (hm:MX):TK BONumbers:=tcT EONumber KONumber (xbg8 hm) hm Tryz.func190 [(true,3)] ⟨⟨_,rfl,qys⟩,trivial⟩ fun xs obs y h hp=>by
  unfold KONumber at h
  split at h
  ·cases h;exact⟨rfl,.trans (by kernel_rfl) (xboe _ hp)⟩
  ·cases h
theorem qzx (hm:MX):OKc Tryz.prog qa1 169 KONumbers:=
 rs0 (E:=EONumbers) (N:=40) (keep:=true) (qzy hm) hm Tryz.func169 (by kernel_rfl) fun xs obs y h hp=>by
  unfold KONumbers at h
  split at h
  ·cases h;exact⟨rfl,.trans (by kernel_rfl) (xbh1 _ hp)⟩
  ·cases h
theorem xbje (hm:MX):TK BARoot:=tabC (K:=KONumbers) (qzx hm) (qzy hm)
theorem xbac (hm:MX):OKc Tryz.prog qa1 176 KARoot:=
 rs0 (E:=EARoot) (N:=40) (keep:=true) (xbje hm) hm Tryz.func176 (by kernel_rfl) fun xs obs y h hp=>by
  unfold KARoot at h
  split at h
  ·cases h;exact⟨rfl,.trans (by kernel_rfl) (xbn5 hp)⟩
  ·cases h;exact⟨rfl,.trans (by kernel_rfl) (xbn4 hp)⟩
  ·cases h;exact⟨rfl,.trans (by kernel_rfl) (xbpc hp)⟩
  ·cases h;exact⟨rfl,.trans (by kernel_rfl) (xbp0 hp)⟩
  ·cases h;exact⟨rfl,.trans (by kernel_rfl) (xbql hp)⟩
  ·cases h;exact⟨rfl,.trans (by kernel_rfl) (xbm2 hp)⟩
  ·cases h
theorem qv0 (hm:MX):TK BOParse:=tabC (K:=KARoot) (xbac hm) (xbje hm)
theorem xbnn (hm:MX): ∀xs obs ys,xbd1 xs obs=true->QONums xs obs=some ys->xbsc Tryz.prog qa1 189 xs obs ys:=by
 intro xs obs ys hp h
 unfold QONums at h
 split at h
 ·rename_i b
  cases h
  have hE: ∀(l:Nat) (g:FuncId),Sound Tryz.prog (EONums l).glob g (ctr (EONums l) g):=fun l g=>(qaj (qv0 hm 190) qbx)
  refine q4b (N:=40) EONums hE hm (fun _=>rfl) (fun _=>rfl) (fun _=>rfl) Tryz.func189 rfl q83 (fun _=>rfl) (by decide) rfl fun l=> ?_
  obtain⟨out,h1,h2⟩:=xb0h l b hp
  exact⟨out,(xbhi l b).trans h1,h2⟩
 ·cases h
theorem xbnu (hm:MX):qef Tryz.prog EOParse:=by
 intro gf xs obs ys hp h
 have h:(cond (Nat.beq gf 189) QONums (fun _ _=>none)) xs obs=some ys:=h
 cases hb:Nat.beq gf 189 with
 | false=>rw[hb] at h;cases h
 | true=>
  obtain rfl:=qaf.1 hb
  exact⟨xbnn hm xs obs ys hp h,_,Tryz.func189,rfl,rfl⟩
theorem q6s (hm:MX):OKS 134 qvq SOParse:=
 qbw (E:=EOParse) (N:=40) (keep:=false) hm (fun g=>(qaj (qv0 hm 169) (qaj (qv0 hm 170) qqe))) Tryz.func134 rfl rfl q6t rfl (hsq:=xbnu hm) (hS:=by
  intro xs obs out hp h
  unfold SOParse at h
  split at h
  ·refine⟨by simp[Tryz.f134], ?_⟩
   rw[xbes]
   exact(xbtq _ hp).trans h
  ·cases h)
theorem xbf7 (hm:MX):TK BR2Parse:=tabC (K:=ofS qvq SOParse) (q6s hm) (qv0 hm)
theorem xboy (hm:MX):TK BR1Same:=tcT ER2Parse KR2Parse (xbf7 hm) hm Tryz.func107 [(true,5)] ⟨⟨_,rfl,qyl⟩,trivial⟩ fun xs obs y h hp=>by
  unfold KR2Parse at h
  split at h
  ·cases h;exact⟨rfl,.trans (by kernel_rfl) (xbpp _ hp)⟩
  ·cases h
theorem xbo5 (hm:MX):TK BSClone:=tcT ER1Same KR1Same (xboy hm) hm Tryz.func14 [(true,4)] ⟨⟨_,rfl,q08⟩,trivial⟩ fun xs obs y h hp=>by
  unfold KR1Same at h
  split at h
  ·cases h;exact⟨rfl,.trans (by kernel_rfl) (xby7 _ _ hp)⟩
  ·cases h
theorem xbsx (hm:MX):TK BR1Num:=tc0 ESClone KSClone (xbo5 hm) hm Tryz.func91 fun xs obs y h hp=>by
  unfold KSClone at h
  split at h
  ·cases h;exact⟨rfl,.trans (by kernel_rfl) (xbsw _ hp)⟩
  ·cases h
theorem xbic (hm:MX):TK BRLength:=tcT ER1Num KR1Num (xbsx hm) hm Tryz.func144 [(true,3)] ⟨⟨_,rfl,q6x⟩,trivial⟩ fun xs obs y h hp=>by
  unfold KR1Num at h
  split at h
  ·cases h;exact⟨rfl,.trans (by kernel_rfl) (xb0j _ hp)⟩
  ·cases h
theorem xboh (hm:MX):TK BR4Less:=tc0 ERLength KRLength (xbic hm) hm Tryz.func102 fun xs obs y h hp=>by
  unfold KRLength at h
  split at h
  ·cases h;exact⟨rfl,.trans (by kernel_rfl) (xbrj _ hp)⟩
  ·cases h
theorem xbwe (hm:MX):TK BUWord:=tcT ER4Less KR4Less (xboh hm) hm Tryz.func111 [(true,2)] ⟨⟨_,rfl,q06⟩,trivial⟩ fun xs obs y h hp=>by
  unfold KR4Less at h
  split at h
  ·cases h;exact⟨rfl,.trans (by kernel_rfl) (xbtk _ _ hp)⟩
  ·cases h
theorem xbrp (hm:MX):TK BUValid:=tc0 EUWord KUWord (xbwe hm) hm Tryz.func171 fun xs obs y h hp=>by
  unfold KUWord at h
  split at h
  ·cases h;exact⟨rfl,.trans (by kernel_rfl) (xb1d _ hp)⟩
  ·cases h
theorem xbu6 (hm:MX):TK BDFits:=tcT EUValid KUValid (xbrp hm) hm Tryz.func135 [(true,10),(true,2)] ⟨⟨_,rfl,qzr⟩,⟨_,rfl,q0p⟩,trivial⟩ fun xs obs y h hp=>by
  unfold KUValid at h
  split at h
  ·cases h;exact⟨rfl,.trans (by kernel_rfl) (xbxt _ hp)⟩
  ·cases h
theorem xbtc (hm:MX):TK BRFits:=tc0 EDFits KDFits (xbu6 hm) hm Tryz.func90 fun xs obs y h hp=>by
  unfold KDFits at h
  split at h
  ·cases h;exact⟨rfl,.trans (by kernel_rfl) (xbsg _ _ hp)⟩
  ·cases h
theorem q9d (hm:MX):TK BR4Sorted:=tc0 ERFits KRFits (xbtc hm) hm Tryz.func104 fun xs obs y h hp=>by
  unfold KRFits at h
  split at h
  ·cases h;exact⟨rfl,.trans (by kernel_rfl) (xb06 _ _ hp)⟩
  ·cases h
theorem q6j (hm:MX):TK BBACompare:=tcT ER4Sorted KR4Sorted (q9d hm) hm Tryz.func105 [(true,2)] ⟨⟨_,rfl,qvh⟩,trivial⟩ fun xs obs y h hp=>by
  unfold KR4Sorted at h
  split at h
  ·cases h;exact⟨rfl,.trans (by kernel_rfl) (xbgm _ hp)⟩
  ·cases h
theorem xbdl (hm:MX):TK BBCompare:=tabC (K:=ofS qh6 SBACompare) (qwb hm) (q6j hm)
theorem xbw6 (hm:MX):TK BOLess:=tc0 EBCompare KBCompare (xbdl hm) hm Tryz.func161 fun xs obs y h hp=>by
  unfold KBCompare at h
  split at h
  ·cases h;exact⟨rfl,.trans (by kernel_rfl) (xbhr _ _ hp)⟩
  ·cases h
theorem xbqz (hm:MX):TK BOSteps:=tc0 EOLess KOLess (xbw6 hm) hm Tryz.func160 fun xs obs y h hp=>by
  unfold KOLess at h
  split at h
  ·cases h;exact⟨rfl,.trans (by kernel_rfl) (xbz4 _ _ hp)⟩
  ·cases h
theorem xbfs (hm:MX):TK BOSorted:=tcT EOSteps KOSteps (xbqz hm) hm Tryz.func159 [(true,2)] ⟨⟨_,rfl,q2o⟩,trivial⟩ fun xs obs y h hp=>by
  unfold KOSteps at h
  split at h
  ·cases h;exact⟨rfl,.trans (by kernel_rfl) (xbw9 _ hp)⟩
  ·cases h
theorem qnz (hm:MX):TK xbla:=tc0 EOSorted KOSorted (xbfs hm) hm Tryz.func123 fun xs obs y h hp=>by
  unfold KOSorted at h
  split at h
  ·cases h;exact⟨rfl,.trans (by kernel_rfl) (xbpr _ hp)⟩
  ·cases h
theorem qsi (hm:MX): ∀rk,OKS 59 (qsu rk) qul
 | 0=>qhh fun xs obs h=>by
  unfold qsu at h
  split at h
  ·simp at h
  ·cases h
 | rk+1=>qbw (E:=q57 rk) (N:=40) (keep:=false) hm (fun g=>(qaj (qsi hm rk) (qaj (qnz hm 101) (qaj (qnz hm 102) (qaj (qnz hm 103) (qaj (qnz hm 104) (qaj (qnz hm 105) qbx))))))) Tryz.func59 rfl rfl (q6o rk) rfl (by
  intro xs obs out hp h
  unfold qul at h
  split at h
  ·refine⟨by simp[Tryz.f59], ?_⟩
   rw[xba1]
   exact(xbzh rk _ _ hp).trans h
  ·cases h)
theorem q7d (hm:MX):OKS 59 qps qul:=
 qer (fun rk=>qsi hm rk) fun xs obs h=>by
  unfold qps at h
  split at h
  ·rename_i b deep
   simp only[zab] at h
   refine⟨deep.toNat+1, ?_⟩
   show(qad b&&(qcg deep&&decide (deep.toNat<deep.toNat+1)))=true
   simp only[zab,decide_eq_true_eq]
   exact⟨h.1,h.2,by omega⟩
  ·cases h
theorem xbrh (hm:MX):TK BRParse:=tabC (K:=ofS qps qul) (q7d hm) (qnz hm)
theorem xbtx (hm:MX):TK BDMust:=tc0 ERParse KRParse (xbrh hm) hm Tryz.func30 fun xs obs y h hp=>by
  unfold KRParse at h
  split at h
  ·cases h;exact⟨rfl,.trans (by kernel_rfl) (xbzf _ hp)⟩
  ·cases h
theorem xby3 (hm:MX):TK BDNext:=tc0 EDMust KDMust (xbtx hm) hm Tryz.func49 fun xs obs y h hp=>by
  unfold KDMust at h
  split at h
  ·cases h;rename_i a;exact⟨rfl,.trans (by kernel_rfl) (xbq7 a hp)⟩
  ·cases h;exact⟨rfl,.trans (by kernel_rfl) (xbm3 _ hp)⟩
  ·cases h
theorem xbhg (hm:MX):TK BDLength:=tc0 EDNext KDNext (xby3 hm) hm Tryz.func86 fun xs obs y h hp=>by
  unfold KDNext at h
  split at h
  ·cases h;exact⟨rfl,.trans (by kernel_rfl) (xb1b _ _ hp)⟩
  ·cases h
theorem qg3 (hm:MX):TK BDValue:=tcT EDLength KDLength (xbhg hm) hm Tryz.func88 [(true,7)] ⟨⟨_,rfl,qy3⟩,trivial⟩ fun xs obs y h hp=>by
  unfold KDLength at h
  split at h
  ·cases h;exact⟨rfl,.trans (by kernel_rfl) (xbn6 _ _ hp)⟩
  ·cases h
theorem qru (hm:MX) (rk:Nat) (hV:OKS 48 (qjh rk) SDValue):OKS 89 (qsr rk) SDParts:=
 qbw (E:=EDParts rk) (N:=40) (keep:=false) hm (fun g=>(qaj (hV) (qaj (qg3 hm 49) (qaj (qg3 hm 123) qbx)))) Tryz.func89 rfl rfl (q7t rk) rfl (by
  intro xs obs out hp h
  unfold SDParts at h
  split at h
  ·refine⟨by simp[Tryz.f89], ?_⟩
   rw[xbdq]
   exact(xbs2 rk _ _ _ _ hp).trans h
  ·cases h)
theorem q2a (hm:MX) (rk:Nat) (hP:OKS 89 (qsr rk) SDParts):OKS 48 (qjh (rk+1)) SDValue:=
 qbw (E:=EDValue rk) (N:=40) (keep:=false) hm (fun g=>(qaj (qg3 hm 49) (qaj (qg3 hm 50) (qaj (qg3 hm 86) (qaj (qg3 hm 87) (qaj (qg3 hm 88) (qaj (hP) (qaj (qg3 hm 90) (qaj (qg3 hm 91) qbx))))))))) Tryz.func48 rfl rfl (q78 rk) rfl (by
  intro xs obs out hp h
  unfold SDValue at h
  split at h
  ·refine⟨by simp[Tryz.f48], ?_⟩
   rw[xbdd]
   exact(xbvf rk _ _ hp).trans h
  ·cases h)
theorem xbeo (hm:MX): ∀rk,OKS 48 (qjh rk) SDValue
 | 0=>qhh fun xs obs h=>by
  unfold qjh at h
  split at h
  ·simp at h
  ·cases h
 | rk+1=>q2a hm rk (qru hm rk (xbeo hm rk))
theorem qt8 (hm:MX):OKS 48 qma SDValue:=
 qer (fun rk=>xbeo hm rk) fun xs obs h=>by
  unfold qma at h
  split at h
  ·rename_i l d
   simp only[zab] at h
   refine⟨d.toNat+1, ?_⟩
   show(qad l&&(qcg d&&decide (d.toNat<d.toNat+1)))=true
   simp only[zab,decide_eq_true_eq]
   exact⟨h.1,h.2,by omega⟩
  ·cases h
theorem q6e (hm:MX):OKS 89 qpz SDParts:=
 qer (fun rk=>qru hm rk (xbeo hm rk)) fun xs obs h=>by
  unfold qpz at h
  split at h
  ·rename_i tag b l d
   simp only[zab,decide_eq_true_eq] at h
   refine⟨d.toNat, ?_⟩
   show(qad b&&(qcg d&&decide (0<d/\d.toNat<d.toNat+1)))=true
   simp only[zab,decide_eq_true_eq]
   exact⟨h.1,h.2.1,h.2.2,by omega⟩
  ·cases h
theorem xbpm (hm:MX):TK BDParts:=tabC (K:=ofS qma SDValue) (qt8 hm) (qg3 hm)
theorem xbct (hm:MX):TK BDParse:=tabC (K:=ofS qpz SDParts) (q6e hm) (xbpm hm)
theorem xbg9 (hm:MX):DSound Tryz.prog qa1 47 (fun m xs obs=>cond (qro m xs obs) (DDCatch m xs obs) none):=by
 have hE: ∀g,Sound Tryz.prog EDCatch.glob g (ctr EDCatch g):=fun g=>qbx
 refine xbhk (E:=EDCatch) (N:=40) hE (qrc rfl) rfl (qmq hE hm) rfl Tryz.func47 q7p rfl ?_
 intro m xs obs out h
 obtain⟨hp,h⟩:=qaa h
 unfold DDCatch at h
 split at h
 ·refine⟨by simp[Tryz.f47], ?_⟩
  rw[q0f]
  exact h
 ·refine⟨by simp[Tryz.f47], ?_⟩
  rw[q2r]
  exact h
 ·refine⟨by simp[Tryz.f47], ?_⟩
  rw[q1n]
  exact h
 ·cases h
theorem q65 (hm:MX):OKS 23 qvz SDParse:=by
 have hE: ∀g,Sound Tryz.prog EDParse.glob g (ctr EDParse g):=fun g=>(qaj (qt8 hm) (qaj (xbct hm 49) qbx))
 refine q7g (E:=EDParse) (D:=DEDParse) (N:=40) (keep:=false) hE (qrc rfl) (qmq hE hm) (fun g=> ?_) (fun g m xs obs out h=> ?_) rfl Tryz.func23 rfl rfl rfl q79 rfl (fun xs obs out h=> ?_)
 ·show DSound Tryz.prog qa1 g fun m xs obs=>cond ((cond (Nat.beq g 47) qro (fun _ _ _=>false)) m xs obs) ((cond (Nat.beq g 47) DDCatch (fun _ _ _=>none)) m xs obs) none
  cases hb:Nat.beq g 47 with
  | true=>obtain rfl:=qaf.1 hb;exact xbg9 hm
  | false=>intro m xs obs out w Im ρ bl vs u h;cases h
 ·have h:(cond (Nat.beq g 47) DDCatch (fun _ _ _=>none)) m xs obs=some out:=h
  cases hb:Nat.beq g 47 with
  | true=>obtain rfl:=qaf.1 hb;exact⟨_,Tryz.func47,rfl,rfl⟩
  | false=>rw[hb] at h;cases h
 ·obtain⟨hp,h⟩:=qaa h
  unfold SDParse at h
  split at h
  ·refine⟨by simp[Tryz.f23], ?_⟩
   rw[xbaa]
   exact(xby6 _ hp).trans h
  ·cases h
theorem qyh (hm:MX):TK BDSize:=tabC (K:=ofS qvz SDParse) (q65 hm) (xbct hm)
theorem qtk (hm:MX): ∀rk,OKS 73 (qkn rk) SDSize
 | 0=>qhh fun xs obs h=>by
  unfold qkn at h
  split at h
  ·simp only[zab] at h;have:=(qj6 h.1).1;simp[isTf] at this
  ·cases h
 | rk+1=>qbw (E:=EDSize rk) (N:=40) (keep:=false) hm (fun g=>(qaj (qyh hm 50) (qaj (qtk hm rk) (qaj (qyh hm 87) (qaj (qyh hm 90) (qaj (qyh hm 121) qbx)))))) Tryz.func73 rfl rfl (xbfc rk) rfl (by
  intro xs obs out hq h
  have hp:qkn (rk+1) xs obs=true:=hq
  have hp0:qkn (rk+1) xs obs=true:=hq
  clear hq
  unfold qkn at hp
  split at hp
  ·rename_i a n
   try simp only[zab] at hp
   have ha:=(qj6 hp.1).1
   obtain⟨_,ta,ba,ka,_,rfl,_⟩:=qcx ha
   refine⟨by simp[Tryz.f73], ?_⟩
   rw[xbg1]
   exact(xb0n rk ta ba ka n hp0).trans h
  ·cases hp)
theorem qzu (hm:MX):OKS 73 qqm SDSize:=
 qer (fun rk=>qtk hm rk) fun xs obs h=>by
  unfold qqm at h
  split at h
  ·rename_i a n
   simp only[zab] at h
   obtain⟨n',hn,hb⟩:=qdl h.1
   refine⟨n', ?_⟩
   show(isSr n' a&&qcg n)=true
   rw[q5a hn hb,h.2];rfl
  ·cases h
theorem xbyy (hm:MX):TK BDPut:=tabC (K:=ofS qqm SDSize) (qzu hm) (qyh hm)
theorem xbgp (hm:MX):OKc Tryz.prog qa1 122 KDPut:=
 rs (E:=EDPut) (N:=40) (keep:=true) (xbyy hm) hm Tryz.func122 (lsB (ids:=[(true,7)]) (by kernel_rfl) ⟨⟨_,rfl,xbbi⟩,trivial⟩) fun xs obs y h hp=>by
  unfold KDPut at h
  split at h
  ·cases h;exact⟨rfl,.trans (by kernel_rfl) (xb5t _ _ hp)⟩
  ·cases h
theorem xbj8 (hm:MX):TK BRHead:=tabC (K:=KDPut) (xbgp hm) (xbyy hm)
theorem xbdy (hm:MX):OKc Tryz.prog qa1 128 KRHead:=
 rs0 (E:=ERHead) (N:=40) (keep:=true) (xbj8 hm) hm Tryz.func128 (by kernel_rfl) fun xs obs y h hp=>by
  unfold KRHead at h
  split at h
  ·cases h;exact⟨rfl,.trans (by kernel_rfl) (xb1l _ _ hp)⟩
  ·cases h
theorem xbp7 (hm:MX):TK BR1Join:=tabC (K:=KRHead) (xbdy hm) (xbj8 hm)
theorem xbud (hm:MX):TK BSGrow:=tcT ER1Join KR1Join (xbp7 hm) hm Tryz.func129 [(true,3)] ⟨⟨_,rfl,q1y⟩,trivial⟩ fun xs obs y h hp=>by
  unfold KR1Join at h
  split at h
  ·cases h;exact⟨rfl,.trans (by kernel_rfl) (xbw0 _ hp)⟩
  ·cases h
theorem xbha (hm:MX):TK BSConcat:=tabC (K:=ofS quv SSGrow) (q85 hm) (xbud hm)
theorem qrq (hm:MX):TK BDWrite:=tcT ESConcat KSConcat (xbha hm) hm Tryz.func124 [(true,3),(true,11)] ⟨⟨_,rfl,qz1⟩,⟨_,rfl,qwx⟩,trivial⟩ fun xs obs y h hp=>by
  unfold KSConcat at h
  split at h
  ·cases h;exact⟨rfl,.trans (by kernel_rfl) (xboa _ hp)⟩
  ·cases h
theorem qp5 (hm:MX): ∀rk,OKS 74 (qha rk) SDWrite
 | 0=>qhh fun xs obs h=>by
  unfold qha at h
  split at h
  ·have:=(qvi h).1;simp[isTf] at this
  ·cases h
 | rk+1=>qbw (E:=EDWrite rk) (N:=40) (keep:=false) hm (fun g=>(qaj (qrq hm 50) (qaj (qp5 hm rk) (qaj (qrq hm 122) (qaj (qrq hm 123) (qaj (qrq hm 124) qbx)))))) Tryz.func74 rfl rfl (q74 rk) rfl (by
  intro xs obs out hq h
  have hp:qha (rk+1) xs obs=true:=hq
  have hp0:qha (rk+1) xs obs=true:=hq
  clear hq
  unfold qha at hp
  split at hp
  ·rename_i a
   try simp only[zab] at hp
   have ha:=(qvi hp).1
   obtain⟨_,ta,ba,ka,_,rfl,_⟩:=qcx ha
   refine⟨by simp[Tryz.f74], ?_⟩
   rw[xbap]
   exact(xbwr rk ta ba ka hp0).trans h
  ·cases hp)
theorem quk (hm:MX):OKS 74 qmt SDWrite:=
 qer (fun rk=>qp5 hm rk) fun xs obs h=>by
  unfold qmt at h
  split at h
  ·rename_i a
   unfold isW at h
   rw[qab] at h
   obtain⟨n,hn⟩:=@of_decide_eq_true _ (Classical.propDecidable _) h
   exact⟨n,xbk0 hn⟩
  ·cases h
theorem qli (hm:MX):TK BRWrite:=tabC (K:=ofS qmt SDWrite) (quk hm) (qrq hm)
theorem qsp (hm:MX): ∀rk,OKS 77 (qhc rk) SRWrite
 | 0=>qhh fun xs obs h=>by
  unfold qhc at h
  split at h
  ·simp only[zab] at h;have:=(qj6 h.1).1;simp[isTf] at this
  ·cases h
 | rk+1=>qbw (E:=ERWrite rk) (N:=40) (keep:=false) hm (fun g=>(qaj (qsp hm rk) (qaj (qli hm 101) (qaj (qli hm 103) (qaj (qli hm 104) (qaj (qli hm 105) (qaj (qli hm 128) (qaj (qli hm 129) qbx)))))))) Tryz.func77 rfl rfl (q7v rk) rfl (by
  intro xs obs out hq h
  have hp:qhc (rk+1) xs obs=true:=hq
  have hp0:qhc (rk+1) xs obs=true:=hq
  clear hq
  unfold qhc at hp
  split at hp
  ·rename_i a n
   try simp only[zab] at hp
   have ha:=(qj6 hp.1).1
   obtain⟨_,ta,ba,ka,_,rfl,_⟩:=qcx ha
   refine⟨by simp[Tryz.f77], ?_⟩
   rw[xba5]
   exact(xbvu rk ta ba ka n hp0).trans h
  ·cases hp)
theorem qti (hm:MX):OKS 77 ql7 SRWrite:=
 qer (fun rk=>qsp hm rk) fun xs obs h=>by
  unfold ql7 at h
  split at h
  ·rename_i a n
   simp only[zab] at h
   obtain⟨n',hn,hb⟩:=qdl h.1
   refine⟨n', ?_⟩
   show(isSr n' a&&qcg n)=true
   rw[q5a hn hb,h.2];rfl
  ·cases h
theorem xbmp (hm:MX):TK BDBytes:=tabC (K:=ofS ql7 SRWrite) (qti hm) (qli hm)
theorem quc (hm:MX):OKS 36 qh7 SDBytes:=
 qbw (E:=EDBytes) (N:=40) (keep:=false) hm (fun g=>(qaj (qzu hm) (qaj (quk hm) qbx))) Tryz.func36 rfl rfl q64 rfl (by
  intro xs obs out hq h
  have hp:qh7 xs obs=true:=hq
  have hp0:qh7 xs obs=true:=hq
  clear hq
  unfold qh7 at hp
  split at hp
  ·rename_i a
   try simp only[zab] at hp
   obtain⟨_,ha,_⟩:=qdl hp
   obtain⟨_,ta,ba,ka,_,rfl,_⟩:=qcx ha
   refine⟨by simp[Tryz.f36], ?_⟩
   rw[q87]
   exact(xbsj ta ba ka hp0).trans h
  ·cases hp)
theorem xbxh (hm:MX):TK xbup:=tabC (K:=ofS qh7 SDBytes) (quc hm) (xbmp hm)
theorem xbeu (hm:MX):OKS 72 qn7 xbnd:=
 qbw (E:=xbnq) (N:=40) (keep:=false) hm (fun g=>(qaj (quc hm) qbx)) Tryz.func72 rfl rfl xbcs rfl (by
  intro xs obs out hq h
  have hp:qn7 xs obs=true:=hq
  have hp0:qn7 xs obs=true:=hq
  clear hq
  unfold qn7 at hp
  split at hp
  ·rename_i a
   try simp only[zab] at hp
   obtain⟨_,ha,_⟩:=qdl hp
   obtain⟨_,ta,ba,ka,_,rfl,_⟩:=qcx ha
   refine⟨by simp[Tryz.f72], ?_⟩
   rw[xbgt]
   exact(xb3h ta ba ka hp0).trans h
  ·cases hp)
theorem xbnr (hm:MX):TK BRBytes:=tabC (K:=ofS qn7 xbnd) (xbeu hm) (xbxh hm)
theorem que (hm:MX):OKS 38 qie SRBytes:=
 qbw (E:=ERBytes) (N:=40) (keep:=false) hm (fun g=>(qaj (qti hm) qbx)) Tryz.func38 rfl rfl q7r rfl (by
  intro xs obs out hq h
  have hp:qie xs obs=true:=hq
  have hp0:qie xs obs=true:=hq
  clear hq
  unfold qie at hp
  split at hp
  ·rename_i a
   try simp only[zab] at hp
   obtain⟨_,ha,_⟩:=qdl hp
   obtain⟨_,ta,ba,ka,_,rfl,_⟩:=qcx ha
   refine⟨by simp[Tryz.f38], ?_⟩
   rw[q8o]
   exact(xbxd ta ba ka hp0).trans h
  ·cases hp)
theorem xbsr (hm:MX):TK xbvt:=tabC (K:=ofS qie SRBytes) (que hm) (xbnr hm)
theorem xbeb (hm:MX):OKS 66 qoc xbqe:=
 qbw (E:=xbpo) (N:=40) (keep:=false) hm (fun g=>(qaj (que hm) qbx)) Tryz.func66 rfl rfl xbew rfl (by
  intro xs obs out hq h
  have hp:qoc xs obs=true:=hq
  have hp0:qoc xs obs=true:=hq
  clear hq
  unfold qoc at hp
  split at hp
  ·rename_i a
   try simp only[zab] at hp
   obtain⟨_,ha,_⟩:=qdl hp
   obtain⟨_,ta,ba,ka,_,rfl,_⟩:=qcx ha
   refine⟨by simp[Tryz.f66], ?_⟩
   rw[xbip]
   exact(xb15 ta ba ka hp0).trans h
  ·cases hp)
theorem xbx7 (hm:MX):TK BSEq32:=tabC (K:=ofS qoc xbqe) (xbeb hm) (xbsr hm)
theorem xbxk (hm:MX):TK BOSame:=tcT ESEq32 KSEq32 (xbx7 hm) hm Tryz.func177 [(true,4)] ⟨⟨_,rfl,q8h⟩,trivial⟩ fun xs obs y h hp=>by
  unfold KSEq32 at h
  split at h
  ·cases h;exact⟨rfl,.trans (by kernel_rfl) (xb0u _ _ hp)⟩
  ·cases h
theorem xbwc (hm:MX):TK BOPut:=tc0 EOSame KOSame (xbxk hm) hm Tryz.func139 fun xs obs y h hp=>by
  unfold KOSame at h
  split at h
  ·cases h;exact⟨rfl,.trans (by kernel_rfl) (xb1v _ _ hp)⟩
  ·cases h
theorem xbhb (hm:MX):OKc Tryz.prog qa1 184 KOPut:=
 rs (E:=EOPut) (N:=40) (keep:=true) (xbwc hm) hm Tryz.func184 (lsB (ids:=[(false,2)]) (by kernel_rfl) ⟨⟨_,rfl,xbd7⟩,trivial⟩) fun xs obs y h hp=>by
  unfold KOPut at h
  split at h
  ·cases h;exact⟨rfl,.trans (by kernel_rfl) (xbuc _ hp)⟩
  ·cases h;rename_i a b c;exact⟨rfl,.trans (by kernel_rfl) (xbx9 a b c hp)⟩
  ·cases h
theorem qyc (hm:MX):TK BR2Groups:=tabC (K:=KOPut) (xbhb hm) (xbwc hm)
theorem qxs (hm:MX):OKc Tryz.prog qa1 183 KR2Groups:=
 rs (E:=ER2Groups) (N:=40) (keep:=true) (qyc hm) hm Tryz.func183 (lsB (ids:=[(true,3)]) (by kernel_rfl) ⟨⟨_,rfl,qv4⟩,trivial⟩) fun xs obs y h hp=>by
  unfold KR2Groups at h
  split at h
  ·cases h;exact⟨rfl,.trans (by kernel_rfl) (xbge _ hp)⟩
  ·cases h
theorem xbop (hm:MX):TK BOBytes:=tabC (K:=KR2Groups) (qxs hm) (qyc hm)
theorem xbif (hm:MX):TK BR2Bytes:=tcT EOBytes KOBytes (xbop hm) hm Tryz.func156 [(true,5)] ⟨⟨_,rfl,q1m⟩,trivial⟩ fun xs obs y h hp=>by
  unfold KOBytes at h
  split at h
  ·cases h;exact⟨rfl,.trans (by kernel_rfl) (xbye _ hp)⟩
  ·cases h
theorem xbtv (hm:MX):TK BVBNum:=tcT ER2Bytes KR2Bytes (xbif hm) hm Tryz.func154 [(true,5)] ⟨⟨_,rfl,qyx⟩,trivial⟩ fun xs obs y h hp=>by
  unfold KR2Bytes at h
  split at h
  ·cases h;exact⟨rfl,.trans (by kernel_rfl) (xbn8 _ hp)⟩
  ·cases h
theorem xb4m (hm:MX):TK BVLe:=tcT EVBNum KVBNum (xbtv hm) hm Tryz.func92 [(true,3)] ⟨⟨_,rfl,q60⟩,trivial⟩ fun xs obs y h hp=>by
  unfold KVBNum at h
  split at h
  ·cases h;exact⟨rfl,.trans (by kernel_rfl) (xb04 _ hp)⟩
  ·cases h
theorem xbnp (hm:MX):OKc Tryz.prog qa1 157 KVLe:=
 rs0 (E:=EVLe) (N:=40) (keep:=true) (xb4m hm) hm Tryz.func157 (by kernel_rfl) fun xs obs y h hp=>by
  unfold KVLe at h
  split at h
  ·cases h;exact⟨rfl,.trans (by kernel_rfl) (nVLe _ hp)⟩
  ·cases h
theorem xbbm (hm:MX):TK BVReverse:=tabC (K:=KVLe) (xbnp hm) (xb4m hm)
theorem xb42 (hm:MX):TK BVBe:=tc0 EVReverse KVReverse (xbbm hm) hm Tryz.func158 fun xs obs y h hp=>by
  unfold KVReverse at h
  split at h
  ·cases h;exact⟨rfl,.trans (by kernel_rfl) (xbf6 _ hp)⟩
  ·cases h
theorem xbs3 (hm:MX):TK BVR1Be:=tc0 EVBe KVBe (xb42 hm) hm Tryz.func120 fun xs obs y h hp=>by
  unfold KVBe at h
  split at h
  ·cases h;exact⟨rfl,.trans (by kernel_rfl) (nVBe _ hp)⟩
  ·cases h
theorem xb0x (hm:MX):TK BVInt:=tc0 EVR1Be KVR1Be (xbs3 hm) hm Tryz.func114 fun xs obs y h hp=>by
  unfold KVR1Be at h
  split at h
  ·cases h;exact⟨rfl,.trans (by kernel_rfl) (xb1h _ hp)⟩
  ·cases h
theorem xbxv (hm:MX):TK BVRInt:=tcT EVInt KVInt (xb0x hm) hm Tryz.func71 [(true,2)] ⟨⟨_,rfl,xbcp⟩,trivial⟩ fun xs obs y h hp=>by
  unfold KVInt at h
  split at h
  ·cases h;exact⟨rfl,.trans (by kernel_rfl) (xb4t _ hp)⟩
  ·cases h
theorem xbfy (hm:MX):TK BVNumber:=tcT EVRInt KVRInt (xbxv hm) hm Tryz.func65 [(true,2)] ⟨⟨_,rfl,q6b⟩,trivial⟩ fun xs obs y h hp=>by
  unfold KVRInt at h
  split at h
  ·cases h;exact⟨rfl,.trans (by kernel_rfl) (xb0a _ hp)⟩
  ·cases h
theorem xbrr (hm:MX):TK xbcm:=tc0 EVNumber KVNumber (xbfy hm) hm Tryz.func53 fun xs obs y h hp=>by
  unfold KVNumber at h
  split at h
  ·cases h;exact⟨rfl,.trans (by kernel_rfl) (xbqn _ hp)⟩
  ·cases h
theorem xbot (hm:MX):TK xbdb:=tc0 xbsm xbev (xbrr hm) hm Tryz.func52 fun xs obs y h hp=>by
  unfold xbev at h
  split at h
  ·cases h;exact⟨rfl,.trans (by kernel_rfl) (xbhf _ _ _ hp)⟩
  ·cases h
theorem xbo1 (hm:MX):TK xba3:=tc0 xbu0 xbbu (xbot hm) hm Tryz.func137 fun xs obs y h hp=>by
  unfold xbbu at h
  split at h
  ·cases h;exact⟨rfl,.trans (by kernel_rfl) (xbx4 _ _ _ hp)⟩
  ·cases h
theorem xbei (hm:MX):TK qwq:=tc0 xbs8 xbeq (xbo1 hm) hm Tryz.func25 fun xs obs y h hp=>by
  unfold xbeq at h
  split at h
  ·cases h;exact⟨rfl,.trans (by kernel_rfl) (xbxe _ _ _ hp)⟩
  ·cases h
theorem xbsq (hm:MX):TK xbms:=tc0 xbgz qwg (xbei hm) hm Tryz.func140 fun xs obs y h hp=>by
  unfold qwg at h
  split at h
  ·cases h;exact⟨rfl,.trans (by kernel_rfl) (xbhl _ _ _ hp)⟩
  ·cases h
theorem xbww (hm:MX):TK BVMade:=tc0 xb0c xbph (xbsq hm) hm Tryz.func93 fun xs obs y h hp=>by
  unfold xbph at h
  split at h
  ·cases h;exact⟨rfl,.trans (by kernel_rfl) (xb1w _ _ _ hp)⟩
  ·cases h
theorem xb46 (hm:MX):TK BVId:=tc0 EVMade KVMade (xbww hm) hm Tryz.func155 fun xs obs y h hp=>by
  unfold KVMade at h
  split at h
  ·cases h;exact⟨rfl,.trans (by kernel_rfl) (xb1f _ _ hp)⟩
  ·cases h
theorem xbl9 (hm:MX):TK BVBytes:=tc0 EVId KVId (xb46 hm) hm Tryz.func118 fun xs obs y h hp=>by
  unfold KVId at h
  split at h
  ·cases h;exact⟨rfl,.trans (by kernel_rfl) (nVId _ hp)⟩
  ·cases h
theorem xbrt (hm:MX):TK BVRMade:=tc0 EVBytes KVBytes (xbl9 hm) hm Tryz.func119 fun xs obs y h hp=>by
  unfold KVBytes at h
  split at h
  ·cases h;exact⟨rfl,.trans (by kernel_rfl) (xbr9 _ hp)⟩
  ·cases h
theorem xb0y (hm:MX):TK BVRId:=tc0 EVRMade KVRMade (xbrt hm) hm Tryz.func153 fun xs obs y h hp=>by
  unfold KVRMade at h
  split at h
  ·cases h;exact⟨rfl,.trans (by kernel_rfl) (xbtj _ _ hp)⟩
  ·cases h
theorem xbfu (hm:MX):TK BVRBytes:=tc0 EVRId KVRId (xb0y hm) hm Tryz.func112 fun xs obs y h hp=>by
  unfold KVRId at h
  split at h
  ·cases h;exact⟨rfl,.trans (by kernel_rfl) (xb44 _ hp)⟩
  ·cases h
theorem xbpx (hm:MX):TK BVClone:=tc0 EVRBytes KVRBytes (xbfu hm) hm Tryz.func113 fun xs obs y h hp=>by
  unfold KVRBytes at h
  split at h
  ·cases h;exact⟨rfl,.trans (by kernel_rfl) (xbod _ hp)⟩
  ·cases h
theorem xb3a (hm:MX):TK BVSeq:=tc0 EVClone KVClone (xbpx hm) hm Tryz.func51 fun xs obs y h hp=>by
  unfold KVClone at h
  split at h
  ·cases h;exact⟨rfl,.trans (by kernel_rfl) (xbv9 _ hp)⟩
  ·cases h
theorem xb3m (hm:MX):TK BVBox:=tc0 EVSeq KVSeq (xb3a hm) hm Tryz.func70 fun xs obs y h hp=>by
  unfold KVSeq at h
  split at h
  ·cases h;exact⟨rfl,.trans (by kernel_rfl) (xb4v _ hp)⟩
  ·cases h
theorem xbvk (hm:MX):TK BVKids:=tc0 EVBox KVBox (xb3m hm) hm Tryz.func165 fun xs obs y h hp=>by
  unfold KVBox at h
  split at h
  ·cases h;exact⟨rfl,.trans (by kernel_rfl) (xb5q _ _ hp)⟩
  ·cases h
theorem xbt8 (hm:MX):TK BVRSeq:=tc0 EVKids KVKids (xbvk hm) hm Tryz.func24 fun xs obs y h hp=>by
  unfold KVKids at h
  split at h
  ·cases h;exact⟨rfl,.trans (by kernel_rfl) (xb0g _ _ _ _ hp)⟩
  ·cases h
theorem xbwu (hm:MX):TK BVRBox:=tc0 EVRSeq KVRSeq (xbt8 hm) hm Tryz.func64 fun xs obs y h hp=>by
  unfold KVRSeq at h
  split at h
  ·cases h;exact⟨rfl,.trans (by kernel_rfl) (xb2c _ hp)⟩
  ·cases h
theorem xb29 (hm:MX):TK BAAll:=tc0 EVRBox KVRBox (xbwu hm) hm Tryz.func130 fun xs obs y h hp=>by
  unfold KVRBox at h
  split at h
  ·cases h;exact⟨rfl,.trans (by kernel_rfl) (xb0w _ _ hp)⟩
  ·cases h
theorem q2e (hm:MX):TK BAFound:=tc0 EAAll KAAll (xb29 hm) hm Tryz.func138 fun xs obs y h hp=>by
  unfold KAAll at h
  split at h
  ·cases h;exact⟨rfl,.trans (by kernel_rfl) (xb43 hp)⟩
  ·cases h
theorem xbcz (hm:MX): ∀xs obs ys,q3e xs obs=true->q7y xs obs=some ys->xbsc Tryz.prog qa1 175 xs obs ys:=by
 intro xs obs ys hp h
 unfold q7y at h
 split at h
 ·cases h
  have hE: ∀(l:Nat) (g:FuncId),Sound Tryz.prog (xbb2 l).glob g (ctr (xbb2 l) g):=fun l g=>(qaj (q2e hm 176) qbx)
  refine q4b (N:=40) xbb2 hE hm (fun _=>rfl) (fun _=>rfl) (fun _=>rfl) Tryz.func175 rfl xbcy (fun _=>rfl) (by decide) rfl fun l=> ?_
  obtain⟨out,h1,h2⟩:=xb00 l hp
  exact⟨out,(xbia l).trans h1,h2⟩
 ·cases h
theorem xbpz (hm:MX):qef Tryz.prog EAFound:=by
 intro gf xs obs ys hp h
 have h:(cond (Nat.beq gf 175) q7y (fun _ _=>none)) xs obs=some ys:=h
 cases hb:Nat.beq gf 175 with
 | false=>rw[hb] at h;cases h
 | true=>
  obtain rfl:=qaf.1 hb
  exact⟨xbcz hm xs obs ys hp h,_,Tryz.func175,rfl,rfl⟩
theorem q6r (hm:MX):OKS 116 qws SAFound:=
 qbw (E:=EAFound) (N:=40) (keep:=false) hm (fun g=>(qaj (q2e hm 138) qqe)) Tryz.func116 rfl rfl q6f rfl (hsq:=xbpz hm) (hS:=by
  intro xs obs out hp h
  unfold SAFound at h
  split at h
  ·refine⟨by simp[Tryz.f116], ?_⟩
   rw[xbec]
   exact(xbxu _ hp).trans h
  ·cases h)
theorem xbmv (hm:MX):TK BAGroup:=tabC (K:=ofS qws SAFound) (q6r hm) (q2e hm)
theorem xb4q (hm:MX):TK BAId:=tc0 EAGroup KAGroup (xbmv hm) hm Tryz.func96 fun xs obs y h hp=>by
  unfold KAGroup at h
  split at h
  ·cases h;exact⟨rfl,.trans (by kernel_rfl) (xbwm _ hp)⟩
  ·cases h
theorem xb28 (hm:MX):TK BAOf:=tc0 EAId KAId (xb4q hm) hm Tryz.func164 fun xs obs y h hp=>by
  unfold KAId at h
  split at h
  ·cases h;exact⟨rfl,.trans (by kernel_rfl) (nAId _ hp)⟩
  ·cases h
theorem xb4w (hm:MX):qef Tryz.prog EAOf:=by
 intro gf xs obs ys hp h
 have h:(cond (Nat.beq gf 175) q7y (fun _ _=>none)) xs obs=some ys:=h
 cases hb:Nat.beq gf 175 with
 | false=>rw[hb] at h;cases h
 | true=>
  obtain rfl:=qaf.1 hb
  exact⟨xbcz hm xs obs ys hp h,_,Tryz.func175,rfl,rfl⟩
theorem xbmk (hm:MX):OKS 94 xbol SAOf:=
 qbw (E:=EAOf) (N:=40) (keep:=false) hm (fun g=>(qaj (xb28 hm 138) (qaj (xb28 hm 139) qqe))) Tryz.func94 rfl rfl xbm5 rfl (hsq:=xb4w hm) (hS:=by
  intro xs obs out hp h
  unfold SAOf at h
  split at h
  ·refine⟨by simp[Tryz.f94], ?_⟩
   rw[xbth]
   exact(nAOf _ hp).trans h
  ·cases h)
theorem xbh8 (hm:MX):TK BARGroup:=tabC (K:=ofS xbol SAOf) (xbmk hm) (xb28 hm)
theorem xbm1 (hm:MX):TK BARNist:=tcT EARGroup KARGroup (xbh8 hm) hm Tryz.func108 [(false,11),(false,7),(false,5),(false,3)] ⟨⟨_,rfl,qw9⟩,⟨_,rfl,qzv⟩,⟨_,rfl,qyb⟩,⟨_,rfl,qx0⟩,trivial⟩ fun xs obs y h hp=>by
  unfold KARGroup at h
  split at h
  ·cases h;exact⟨rfl,.trans (by kernel_rfl) (xbo6 _ hp)⟩
  ·cases h
theorem xbqd (hm:MX):TK BARPkcs:=tc0 EARNist KARNist (xbm1 hm) hm Tryz.func151 fun xs obs y h hp=>by
  unfold KARNist at h
  split at h
  ·cases h;exact⟨rfl,.trans (by kernel_rfl) (xbym _ _ hp)⟩
  ·cases h
theorem xb12 (hm:MX):TK BARId:=tc0 EARPkcs KARPkcs (xbqd hm) hm Tryz.func152 fun xs obs y h hp=>by
  unfold KARPkcs at h
  split at h
  ·cases h;exact⟨rfl,.trans (by kernel_rfl) (xbxa _ hp)⟩
  ·cases h
theorem xbso (hm:MX):TK BAUsed:=tc0 EARId KARId (xb12 hm) hm Tryz.func110 fun xs obs y h hp=>by
  unfold KARId at h
  split at h
  ·cases h;exact⟨rfl,.trans (by kernel_rfl) (xb5k _ hp)⟩
  ·cases h
theorem xbu7 (hm:MX):TK BANode:=tc0 EAUsed KAUsed (xbso hm) hm Tryz.func117 fun xs obs y h hp=>by
  unfold KAUsed at h
  split at h
  ·cases h;exact⟨rfl,.trans (by kernel_rfl) (xb0e _ hp)⟩
  ·cases h
theorem xbnf (hm:MX):TK BARNode:=tc0 EANode KANode (xbu7 hm) hm Tryz.func69 fun xs obs y h hp=>by
  unfold KANode at h
  split at h
  ·cases h;exact⟨rfl,.trans (by kernel_rfl) (xb3n _ _ hp)⟩
  ·cases h
theorem xbsl (hm:MX):TK BATail:=tc0 EARNode KARNode (xbnf hm) hm Tryz.func63 fun xs obs y h hp=>by
  unfold KARNode at h
  split at h
  ·cases h;exact⟨rfl,.trans (by kernel_rfl) (xbws _ _ hp)⟩
  ·cases h
theorem xbtb (hm:MX):TK BARead:=tc0 EATail KATail (xbsl hm) hm Tryz.func95 fun xs obs y h hp=>by
  unfold KATail at h
  split at h
  ·cases h;exact⟨rfl,.trans (by kernel_rfl) (xb2g _ _ hp)⟩
  ·cases h
theorem xbu3 (hm:MX):TK BMSize:=tc0 EARead KARead (xbtb hm) hm Tryz.func55 fun xs obs y h hp=>by
  unfold KARead at h
  split at h
  ·cases h;exact⟨rfl,.trans (by kernel_rfl) (xb01 _ _ _ hp)⟩
  ·cases h
theorem xbmj (hm:MX):TK BR9Size:=tc0 EMSize KMSize (xbu3 hm) hm Tryz.func168 fun xs obs y h hp=>by
  unfold KMSize at h
  split at h
  ·cases h;exact⟨rfl,.trans (by kernel_rfl) (xb0k _ hp)⟩
  ·cases h
theorem xb08 (hm:MX):TK BFDig:=tc0 ER9Size KR9Size (xbmj hm) hm Tryz.func131 fun xs obs y h hp=>by
  unfold KR9Size at h
  split at h
  ·cases h;exact⟨rfl,.trans (by kernel_rfl) (xbtt _ hp)⟩
  ·cases h
theorem xb0r (hm:MX):TK BEDig:=tc0 EFDig KFDig (xb08 hm) hm Tryz.func188 fun xs obs y h hp=>by
  unfold KFDig at h
  split at h
  ·cases h;exact⟨rfl,.trans (by kernel_rfl) (xb5s _ _ hp)⟩
  ·cases h
theorem xbsn (hm:MX):TK xbmz:=tcT EEDig KEDig (xb0r hm) hm Tryz.func194 [(true,5)] ⟨⟨_,rfl,q8q⟩,trivial⟩ fun xs obs y h hp=>by
  unfold KEDig at h
  split at h
  ·cases h;exact⟨rfl,.trans (by kernel_rfl) (xb49 _ _ _ _ hp)⟩
  ·cases h
theorem xbsd (hm:MX):TK BFPart:=tc0 xb0m xbqa (xbsn hm) hm Tryz.func187 fun xs obs y h hp=>by
  unfold xbqa at h
  split at h
  ·cases h;exact⟨rfl,.trans (by kernel_rfl) (xb1n _ _ _ _ hp)⟩
  ·cases h
theorem xbjz (hm:MX):TK BEPart:=tc0 EFPart KFPart (xbsd hm) hm Tryz.func186 fun xs obs y h hp=>by
  unfold KFPart at h
  split at h
  ·cases h;exact⟨rfl,.trans (by kernel_rfl) (xb24 _ _ hp)⟩
  ·cases h
theorem xbej (hm:MX):OKc Tryz.prog qa1 167 KEPart:=
 rs0 (E:=EEPart) (N:=40) (keep:=true) (xbjz hm) hm Tryz.func167 (by kernel_rfl) fun xs obs y h hp=>by
  unfold KEPart at h
  split at h
  ·cases h;exact⟨rfl,.trans (by kernel_rfl) (xb2y _ hp)⟩
  ·cases h
theorem xb20 (hm:MX):TK BEPar:=tabC (K:=KEPart) (xbej hm) (xbjz hm)
theorem xbpi (hm:MX):TK xbaf:=tcT EEPar KEPar (xb20 hm) hm Tryz.func166 [(true,5)] ⟨⟨_,rfl,xbbt⟩,trivial⟩ fun xs obs y h hp=>by
  unfold KEPar at h
  split at h
  ·cases h;exact⟨rfl,.trans (by kernel_rfl) (xb5p _ _ _ _ hp)⟩
  ·cases h
theorem xb2r (hm:MX):TK BEMar:=tc0 xbvd q9u (xbpi hm) hm Tryz.func127 fun xs obs y h hp=>by
  unfold q9u at h
  split at h
  ·cases h;exact⟨rfl,.trans (by kernel_rfl) (xby9 _ _ _ hp)⟩
  ·cases h
theorem xbvc (hm:MX):TK xbox:=tcT EEMar KEMar (xb2r hm) hm Tryz.func163 [(true,5)] ⟨⟨_,rfl,xber⟩,trivial⟩ fun xs obs y h hp=>by
  unfold KEMar at h
  split at h
  ·cases h;exact⟨rfl,.trans (by kernel_rfl) (xb48 _ _ _ hp)⟩
  ·cases h
theorem xbh0 (hm:MX):TK q1p:=tc0 xb1z xbqt (xbvc hm) hm Tryz.func126 fun xs obs y h hp=>by
  unfold xbqt at h
  split at h
  ·cases h;exact⟨rfl,.trans (by kernel_rfl) (xb2d _ _ _ hp)⟩
  ·cases h
theorem xb1r (hm:MX):TK BECha:=tc0 xbns q0m (xbh0 hm) hm Tryz.func76 fun xs obs y h hp=>by
  unfold q0m at h
  split at h
  ·cases h;exact⟨rfl,.trans (by kernel_rfl) (xbo3 _ hp)⟩
  ·cases h
theorem xbsh (hm:MX):TK xbqk:=tcT EECha KECha (xb1r hm) hm Tryz.func125 [(true,5)] ⟨⟨_,rfl,xbag⟩,trivial⟩ fun xs obs y h hp=>by
  unfold KECha at h
  split at h
  ·cases h;exact⟨rfl,.trans (by kernel_rfl) (xb4y _ _ _ hp)⟩
  ·cases h
theorem xbca (hm:MX):TK qww:=tc0 xb3d xbqu (xbsh hm) hm Tryz.func75 fun xs obs y h hp=>by
  unfold xbqu at h
  split at h
  ·cases h;exact⟨rfl,.trans (by kernel_rfl) (xb1g _ _ _ hp)⟩
  ·cases h
theorem xbrb (hm:MX):TK xbkp:=tc0 xbgf qu6 (xbca hm) hm Tryz.func37 fun xs obs y h hp=>by
  unfold qu6 at h
  split at h
  ·cases h;exact⟨rfl,.trans (by kernel_rfl) (xbft _ hp)⟩
  ·cases h
theorem xbdg (hm:MX):TK qwn:=tabC (K:=ofS qpo xbax) (q7c hm) (xbrb hm)
theorem xbfq (hm:MX):TK q3g:=tcT qvx qv2 (xbdg hm) hm Tryz.func40 [(true,3),(true,11)] ⟨⟨_,rfl,qwt⟩,⟨_,rfl,qs4⟩,trivial⟩ fun xs obs y h hp=>by
  unfold qv2 at h
  split at h
  ·cases h;exact⟨rfl,.trans (by kernel_rfl) (xbgy _ hp)⟩
  ·cases h
theorem xbya (hm:MX):TK xboq:=tcT xbb8 q00 (xbfq hm) hm Tryz.func80 [(true,2)] ⟨⟨_,rfl,qyd⟩,trivial⟩ fun xs obs y h hp=>by
  unfold q00 at h
  split at h
  ·cases h;exact⟨rfl,.trans (by kernel_rfl) (xbq6 _ _ hp)⟩
  ·cases h
theorem xb1a (hm:MX):TK xb07:=tc0 xb2u xbq3 (xbya hm) hm Tryz.func41 fun xs obs y h hp=>by
  unfold xbq3 at h
  split at h
  ·cases h;exact⟨rfl,.trans (by kernel_rfl) (xb2l _ _ hp)⟩
  ·cases h
theorem xbmw (hm:MX):TK q92:=tcT xb4h xb1m (xb1a hm) hm Tryz.func42 [(true,4)] ⟨⟨_,rfl,q9o⟩,trivial⟩ fun xs obs y h hp=>by
  unfold xb1m at h
  split at h
  ·cases h;exact⟨rfl,.trans (by kernel_rfl) (xb5e _ _ hp)⟩
  ·cases h
theorem q9g (hm:MX):TK BEDigests:=tcT xblp xbb9 (xbmw hm) hm Tryz.func32 [(true,4)] ⟨⟨_,rfl,q2v⟩,trivial⟩ fun xs obs y h hp=>by
  unfold xbb9 at h
  split at h
  ·cases h;exact⟨rfl,.trans (by kernel_rfl) (xbs6 _ _ hp)⟩
  ·cases h
theorem xbex (hm:MX):TK BRDigests:=tcT EEDigests KEDigests (q9g hm) hm Tryz.func21 [(true,3)] ⟨⟨_,rfl,qxj⟩,trivial⟩ fun xs obs y h hp=>by
  unfold KEDigests at h
  split at h
  ·cases h;exact⟨rfl,.trans (by kernel_rfl) (xbfx _ hp)⟩
  ·cases h
theorem xbuw (hm:MX):TK xbqy:=tcT ERDigests KRDigests (xbex hm) hm Tryz.func17 [(true,10),(true,6),(true,3)] ⟨⟨_,rfl,qs1⟩,⟨_,rfl,qvj⟩,⟨_,rfl,qxf⟩,trivial⟩ fun xs obs y h hp=>by
  unfold KRDigests at h
  split at h
  ·cases h;exact⟨rfl,.trans (by kernel_rfl) (xbhe _ hp)⟩
  ·cases h
theorem xb09 (hm:MX):TK BEAlg:=tc0 xbz7 xbnm (xbuw hm) hm Tryz.func68 fun xs obs y h hp=>by
  unfold xbnm at h
  split at h
  ·cases h;exact⟨rfl,.trans (by kernel_rfl) (xb18 _ hp)⟩
  ·cases h
theorem xbwy (hm:MX):TK xbpa:=tcT EEAlg KEAlg (xb09 hm) hm Tryz.func115 [(true,5)] ⟨⟨_,rfl,xbd8⟩,trivial⟩ fun xs obs y h hp=>by
  unfold KEAlg at h
  split at h
  ·cases h;exact⟨rfl,.trans (by kernel_rfl) (xb5f _ _ _ hp)⟩
  ·cases h
theorem xb2s (hm:MX):TK BERec:=tc0 xb10 xbqh (xbwy hm) hm Tryz.func67 fun xs obs y h hp=>by
  unfold xbqh at h
  split at h
  ·cases h;exact⟨rfl,.trans (by kernel_rfl) (xb3b _ _ _ hp)⟩
  ·cases h
theorem xbx6 (hm:MX):TK BERFit:=tc0 EERec KERec (xb2s hm) hm Tryz.func35 fun xs obs y h hp=>by
  unfold KERec at h
  split at h
  ·cases h;exact⟨rfl,.trans (by kernel_rfl) (xb5l _ _ hp)⟩
  ·cases h
theorem xbyl (hm:MX):TK BERSeq:=tc0 EERFit KERFit (xbx6 hm) hm Tryz.func15 fun xs obs y h hp=>by
  unfold KERFit at h
  split at h
  ·cases h;exact⟨rfl,.trans (by kernel_rfl) (xb0l _ _ hp)⟩
  ·cases h
theorem xbxr (hm:MX):TK BRMark:=tc0 EERSeq KERSeq (xbyl hm) hm Tryz.func18 fun xs obs y h hp=>by
  unfold KERSeq at h
  split at h
  ·cases h;exact⟨rfl,.trans (by kernel_rfl) (xb2n _ _ _ hp)⟩
  ·cases h
theorem xbgh (hm:MX):TK BRChains:=tcT ERMark KRMark (xbxr hm) hm Tryz.func78 [(true,14),(true,8)] ⟨⟨_,rfl,q3a⟩,⟨_,rfl,q6n⟩,trivial⟩ fun xs obs y h hp=>by
  unfold KRMark at h
  split at h
  ·cases h;exact⟨rfl,.trans (by kernel_rfl) (xb2k _ _ _ hp)⟩
  ·cases h
theorem xb1c (hm:MX):TK BRRec:=tcT ERChains KRChains (xbgh hm) hm Tryz.func39 [(true,11),(true,5)] ⟨⟨_,rfl,qxe⟩,⟨_,rfl,qy2⟩,trivial⟩ fun xs obs y h hp=>by
  unfold KRChains at h
  split at h
  ·cases h;exact⟨rfl,.trans (by kernel_rfl) (xbpe _ hp)⟩
  ·cases h
theorem xbut (hm:MX):TK BRRFit:=tcT ERRec KRRec (xb1c hm) hm Tryz.func34 [(true,6)] ⟨⟨_,rfl,q89⟩,trivial⟩ fun xs obs y h hp=>by
  unfold KRRec at h
  split at h
  ·cases h;exact⟨rfl,.trans (by kernel_rfl) (xb5j _ _ hp)⟩
  ·cases h
theorem xbmf (hm:MX):TK xbef:=tc0 ERRFit KRRFit (xbut hm) hm Tryz.func12 fun xs obs y h hp=>by
  unfold KRRFit at h
  split at h
  ·cases h;exact⟨rfl,.trans (by kernel_rfl) (xb0i _ _ hp)⟩
  ·cases h
theorem xbwt (hm:MX):TK xbp4:=tc0 xbtr q8w (xbmf hm) hm Tryz.func143 fun xs obs y h hp=>by
  unfold q8w at h
  split at h
  ·cases h;exact⟨rfl,.trans (by kernel_rfl) (xbxl _ _ _ hp)⟩
  ·cases h
theorem xbtm (hm:MX):TK xbrg:=tcT xbyt xbm6 (xbwt hm) hm Tryz.func178 [(true,5)] ⟨⟨_,rfl,q6q⟩,trivial⟩ fun xs obs y h hp=>by
  unfold xbm6 at h
  split at h
  ·cases h;exact⟨rfl,.trans (by kernel_rfl) (xb3c _ _ _ hp)⟩
  ·cases h
theorem xbgn (hm:MX):TK q2q:=tc0 xb0d xboo (xbtm hm) hm Tryz.func142 fun xs obs y h hp=>by
  unfold xboo at h
  split at h
  ·cases h;exact⟨rfl,.trans (by kernel_rfl) (xb2o _ _ _ _ hp)⟩
  ·cases h
theorem xbse (hm:MX):TK xbl5:=tc0 xbq2 q0n (xbgn hm) hm Tryz.func99 fun xs obs y h hp=>by
  unfold q0n at h
  split at h
  ·cases h;exact⟨rfl,.trans (by kernel_rfl) (xbq1 _ _ _ hp)⟩
  ·cases h
theorem xbu8 (hm:MX):TK xbpj:=tcT xbr7 xbmb (xbse hm) hm Tryz.func141 [(true,5)] ⟨⟨_,rfl,q8f⟩,trivial⟩ fun xs obs y h hp=>by
  unfold xbmb at h
  split at h
  ·cases h;exact⟨rfl,.trans (by kernel_rfl) (xbz5 _ _ _ hp)⟩
  ·cases h
theorem xbio (hm:MX):TK q0z:=tc0 xb25 xbqp (xbu8 hm) hm Tryz.func98 fun xs obs y h hp=>by
  unfold xbqp at h
  split at h
  ·cases h;exact⟨rfl,.trans (by kernel_rfl) (xb3j _ _ _ _ hp)⟩
  ·cases h
theorem xbhv (hm:MX):TK q1o:=tc0 xbo7 q1e (xbio hm) hm Tryz.func100 fun xs obs y h hp=>by
  unfold q1e at h
  split at h
  ·cases h;exact⟨rfl,.trans (by kernel_rfl) (xbqx _ _ _ hp)⟩
  ·cases h
theorem xbzi (hm:MX):TK xbl3:=tc0 xbmm q2i (xbhv hm) hm Tryz.func58 fun xs obs y h hp=>by
  unfold q2i at h
  split at h
  ·cases h;exact⟨rfl,.trans (by kernel_rfl) (xbp6 _ _ _ hp)⟩
  ·cases h
theorem xbw7 (hm:MX):TK xbny:=tcT xbum xbmo (xbzi hm) hm Tryz.func97 [(true,5)] ⟨⟨_,rfl,q7n⟩,trivial⟩ fun xs obs y h hp=>by
  unfold xbmo at h
  split at h
  ·cases h;exact⟨rfl,.trans (by kernel_rfl) (xb05 _ _ _ hp)⟩
  ·cases h
theorem xbbf (hm:MX):TK qwy:=tc0 xbz0 xbme (xbw7 hm) hm Tryz.func57 fun xs obs y h hp=>by
  unfold xbme at h
  split at h
  ·cases h;exact⟨rfl,.trans (by kernel_rfl) (xbz9 _ _ _ _ hp)⟩
  ·cases h
theorem xbv7 (hm:MX):TK xbrs:=tc0 xbhj qvr (xbbf hm) hm Tryz.func29 fun xs obs y h hp=>by
  unfold qvr at h
  split at h
  ·cases h;exact⟨rfl,.trans (by kernel_rfl) (xbhu _ _ _ hp)⟩
  ·cases h
theorem xbu5 (hm:MX):TK xbof:=tcT xbwj xbmx (xbv7 hm) hm Tryz.func56 [(true,5)] ⟨⟨_,rfl,q7a⟩,trivial⟩ fun xs obs y h hp=>by
  unfold xbmx at h
  split at h
  ·cases h;exact⟨rfl,.trans (by kernel_rfl) (xb1x _ _ _ hp)⟩
  ·cases h
theorem xbng (hm:MX):TK q8s:=tc0 xb14 xbne (xbu5 hm) hm Tryz.func28 fun xs obs y h hp=>by
  unfold xbne at h
  split at h
  ·cases h;exact⟨rfl,.trans (by kernel_rfl) (xb3k _ _ _ _ hp)⟩
  ·cases h
theorem xbzm (hm:MX):TK xbna:=tc0 xbss q9y (xbng hm) hm Tryz.func27 fun xs obs y h hp=>by
  unfold q9y at h
  split at h
  ·cases h;exact⟨rfl,.trans (by kernel_rfl) (xbyc _ _ _ hp)⟩
  ·cases h
theorem xbr3 (hm:MX):TK xbpg:=tcT xbv6 xbq0 (xbzm hm) hm Tryz.func54 [(true,5)] ⟨⟨_,rfl,q62⟩,trivial⟩ fun xs obs y h hp=>by
  unfold xbq0 at h
  split at h
  ·cases h;exact⟨rfl,.trans (by kernel_rfl) (xb2t _ _ _ hp)⟩
  ·cases h
theorem xbpf (hm:MX):TK BEParse:=tc0 xb22 xbni (xbr3 hm) hm Tryz.func26 fun xs obs y h hp=>by
  unfold xbni at h
  split at h
  ·cases h;exact⟨rfl,.trans (by kernel_rfl) (xb19 _ _ _ _ hp)⟩
  ·cases h
theorem xbh4 (hm:MX):TK BRESmall:=tc0 EEParse KEParse (xbpf hm) hm Tryz.func8 fun xs obs y h hp=>by
  unfold KEParse at h
  split at h
  ·cases h;exact⟨rfl,.trans (by kernel_rfl) (xbwg _ hp)⟩
  ·cases h
theorem xbmc (hm:MX):TK BWSmall:=tcT ERESmall KRESmall (xbh4 hm) hm Tryz.func16 [(true,16),(true,12),(true,7),(true,3)] ⟨⟨_,rfl,qu2⟩,⟨_,rfl,qxm⟩,⟨_,rfl,qxv⟩,⟨_,rfl,qy7⟩,trivial⟩ fun xs obs y h hp=>by
  unfold KRESmall at h
  split at h
  ·cases h;exact⟨rfl,.trans (by kernel_rfl) (xbqg _ _ _ hp)⟩
  ·cases h
theorem xbl0 (hm:MX):TK BWAwake:=tcT EWSmall KWSmall (xbmc hm) hm Tryz.func11 [(true,2)] ⟨⟨_,rfl,q1w⟩,trivial⟩ fun xs obs y h hp=>by
  unfold KWSmall at h
  split at h
  ·cases h;exact⟨rfl,.trans (by kernel_rfl) (xbxz _ _ hp)⟩
  ·cases h
theorem qln (hm:MX):TK BWFirst:=tc0 EWAwake KWAwake (xbl0 hm) hm Tryz.func7 fun xs obs y h hp=>by
  unfold KWAwake at h
  split at h
  ·cases h;exact⟨rfl,.trans (by kernel_rfl) (xby0 hp)⟩
  ·cases h
theorem q6h (hm:MX):OKS 5 qup SWFirst:=
 qbw (E:=EWFirst) (N:=40) (keep:=false) hm (fun g=>(qaj (qln hm 7) (qaj (qln hm 11) (qaj (qln hm 12) (qaj (qln hm 14) (qaj (qln hm 16) (qaj (qln hm 17) (qaj (qln hm 18) qbx)))))))) Tryz.func5 rfl rfl q7z rfl (by
  intro xs obs out hp h
  unfold SWFirst at h
  split at h
  ·refine⟨by simp[Tryz.f5], ?_⟩
   rw[xbc2]
   exact(xbu2 _ _ _ _ hp).trans h
  ·cases h)
end Go.Proofs.YtoaakappnhemiaaGreatDoorA
