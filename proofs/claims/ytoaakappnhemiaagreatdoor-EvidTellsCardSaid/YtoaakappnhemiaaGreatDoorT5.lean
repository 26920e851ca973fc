/-
 The library's comparison of bytes: its contract holds. Conditions: none.
-/
import Derived.Test.YtoaakappnhemiaaGreatDoorT3b
import Derived.Lib.BytesEntry
import Derived.Test.YtoaakappnhemiaaGreatDoorK3
import Derived.Shelf.Spec.SlicesGrow
import Derived.Test.YtoaakappnhemiaaGreatDoorT4
set_option linter.unusedVariables false
set_option linter.unusedSimpArgs false
set_option maxRecDepth 100000
namespace Go.Proofs.YtoaakappnhemiaaGreatDoorA
theorem xbea {P:Program} {w:World} {Im:Nat->Prop} {l:List Int} {v:Value} (h:CRep w Im (.sli .u8 l) v):(Extern.Bytes.bytesOf v).run P w=.ok ⟨(Lib.bytesOf l).toArray⟩ w:=by
 cases h with
 | sli _ _ a len cap hl hc hcell=>
  cases a with
  | none=>
   have:l=[]:=by
    cases l with
    | nil=>rfl
    | cons x r=>obtain⟨ad,e,_⟩:=hcell 0 x rfl;cases e
   subst this
   rfl
  | some ad=>
   subst hl
   have:=Lib.run_loadBytesX (P:=P) w l ad .empty (fun j x hj=>by obtain⟨ad',e,_,hc⟩:=hcell j x hj;cases e;exact hc)
   refine this.trans ?_
   congr 1
   apply ByteArray.ext
   show(#[]:Array UInt8)++(Lib.bytesOf l).toArray=(Lib.bytesOf l).toArray
   simp
theorem xbbo: ∀(a b:List Int),(∀x∈a,0<=x/\x<=255)->(∀x∈b,0<=x/\x<=255)->Lib.compareBytes (Lib.bytesOf a) (Lib.bytesOf b)=qbo a b
 | [],[],_,_=>rfl
 | [],_::_,_,_=>rfl
 | _::_,[],_,_=>rfl
 | x::a,y::b,ha,hb=>by
  have ih:=xbbo a b (fun z hz=>ha z (zba _ hz)) (fun z hz=>hb z (zba _ hz))
  have hx:=ha x (zcg ..)
  have hy:=hb y (zcg ..)
  have e1:(UInt8.ofNat x.toNat<UInt8.ofNat y.toNat)↔x<y:=by
   rw[UInt8.lt_iff_toNat_lt,zdn,zdn]
   omega
  have e2:(UInt8.ofNat y.toNat<UInt8.ofNat x.toNat)↔y<x:=by
   rw[UInt8.lt_iff_toNat_lt,zdn,zdn]
   omega
  show(if UInt8.ofNat x.toNat<UInt8.ofNat y.toNat then(-1:Int) else if UInt8.ofNat y.toNat<UInt8.ofNat x.toNat then 1 else Lib.compareBytes (Lib.bytesOf a) (Lib.bytesOf b))=(if x<y then -1 else if y<x then 1 else qbo a b)
  simp only[e1,e2,ih]
theorem xbyz {P:Program} {w:World} {Im:Nat->Prop} {a b:List Int} {va vb:Value} (ha:CRep w Im (.sli .u8 a) va) (hb:CRep w Im (.sli .u8 b) vb) (h1: ∀x∈a,0<=x/\x<=255) (h2: ∀x∈b,0<=x/\x<=255):
  (Extern.BytealgCompare.compare #[va,vb]).run P w=.ok (.int .i64 (qbo a b)) w:=by
 change Sem.run P (do pure (goInt (Extern.BytealgCompare.cmp (<- Extern.Bytes.bytesOf va) (<- Extern.Bytes.bytesOf vb)))) w=_
 simp only[Sem.run_bind,Sem.run_pure,xbea ha,xbea hb,Result.andThen]
 rw[Lib.cmp_eq]
 show Result.ok (Value.int .i64 (Lib.compareBytes (Lib.bytesOf a) (Lib.bytesOf b))) w=_
 rw[xbbo a b h1 h2]
theorem qw9 (hm:Tryz.prog.follows .mixedOrders=true):Sound Tryz.prog qay 185 (fun xs obs=>cond (qi9 xs obs) (SBACompare xs obs).eval none):=by
 intro xs obs out w Im ρ bl vs hs hpre
 obtain⟨h1,h2⟩:=qaa hs
 unfold qi9 at h1
 split at h1
 ·rename_i a b
  simp only[zab] at h1
  have h2:some (Out.ret [.cl (.int .i64 (qha a b))] [])=some out:=h2
  cases h2
  have hl:vs.length=2:=hpre.reps.1
  match vs,hl,hpre with
  | [va,vb],_,hpre=>
   have ra:CRep w Im (.sli .u8 a) va:=by have:=hpre.reps.2 0 _ _ rfl rfl;cases this;assumption
   have rb:CRep w Im (.sli .u8 b) vb:=by have:=hpre.reps.2 1 _ _ rfl rfl;cases this;assumption
   refine .inr ⟨.int .i64 (qha a b),w, ?_,[.int .i64 (qha a b)],Im,ρ,rfl,⟨Fr.refl w bl,hpre.gam,fun j o o' hj=>by cases hj⟩,rfl,fun j c v hj hv=> ?_⟩
   ·rw[run_callFunc_extern (e:=Extern.BytealgCompare.compare) Tryz.func185 rfl rfl rfl (by kernel_rfl)]
    show Result.andThen ((Extern.BytealgCompare.compare #[va,vb]).run Tryz.prog w) _=_
    rw[xbyz ra rb (qam h1.1).2 (qam h1.2).2]
    unfold qha
    rw[qab]
    rfl
   ·match j,hj,hv with
    | 0,hj,hv=>cases hj;cases hv;exact .cl _ _ (.int ..)
    | j+1,hj,hv=>cases hj
 ·cases h1
def q1d:Go.Shelf.Ren:=⟨fun _=>162,fun t=>cond (Nat.beq t 25) 5 (cond (Nat.beq t 22) 22 t),fun g=>g⟩
theorem xbeg (hm:Tryz.prog.follows .mixedOrders=true):Lays8.n4 Tryz.prog q1d where
 mixed:=hm
 f4:=⟨Tryz.f162.name,by decide,by kernel_rfl⟩
 t0:=Tryz.underlying0
 a0:=fun w=>by kernel_rfl
 z0:=fun w=>by kernel_rfl
 v0:=fun w=>by kernel_rfl
 t3:=Tryz.underlying3
 a3:=fun w=>by kernel_rfl
 z3:=fun w=>by kernel_rfl
 v3:=fun w=>by kernel_rfl
 t4:=Tryz.underlying4
 a4:=fun w=>by kernel_rfl
 z4:=fun w=>by kernel_rfl
 v4:=fun w=>by kernel_rfl
 t9:=Tryz.underlying9
 a9:=fun w=>by kernel_rfl
 z9:=fun w=>by kernel_rfl
 v9:=fun w=>by kernel_rfl
 t20:=Tryz.underlying20
 a20:=fun w=>by kernel_rfl
 z20:=fun w=>by kernel_rfl
 v20:=fun w=>by kernel_rfl
 t22:=Tryz.underlying22
 a22:=fun w=>by kernel_rfl
 z22:=fun w=>by kernel_rfl
 v22:=fun w=>by kernel_rfl
theorem info5:(Tryz.prog.info? 5).map (fun i=>(i.zero,i.size,i.bytes))=some (some (.int .u8 0),1,1):=by kernel_rfl
theorem xbfw {bl:Nat->Prop} {w w':World} {Im:Nat->Prop} {ρ ρ':Nat->Loc} {l:Loc} (h:Gam w.heap.size bl Im w Im ρ []) (hsz:w.heap.size<=w'.heap.size) (hρ:ρ' 0=l) (ho:ORep w' Im ρ' (shOf [(0,⟨.ints .u8 [],false⟩)]) (.ints .u8 []) l) (hl: ∀b x y,l=some (b,x,y)->b<w'.heap.size/\¬Im b/\w.heap.size<=b):
  Gam w.heap.size bl Im w' Im ρ' [(0,⟨.ints .u8 [],false⟩)]:=by
 have one: ∀(p:Nat) (o:Obj),qal ([(0,⟨.ints .u8 [],false⟩)]:Heap) p=some o->p=0/\o=⟨.ints .u8 [],false⟩:=fun p o hp=>by
  simp only[qal] at hp
  cases hb:Nat.beq 0 p with
  | true=>rw[hb] at hp;cases hp;exact⟨(qaf.1 hb).symm,rfl⟩
  | false=>rw[hb] at hp;cases hp
 refine⟨fun b hb=>za9 (h.im b hb) hsz,h.i0,fun p o hp=> ?_,fun p q o o' b x y x' y' hp hq _ _ hne=> ?_,fun p o b x y hp hr=> ?_,h.imo⟩
 ·obtain⟨rfl,rfl⟩:=one p o hp
  rw[hρ]
  exact ho
 ·exact absurd ((one p o hp).1.trans (one q o' hq).1.symm) hne
 ·obtain⟨rfl,rfl⟩:=one p o hp
  rw[hρ] at hr
  obtain⟨h1,h2,h3⟩:=hl b x y hr
  exact⟨h1,fun e=>absurd e zb1,fun _=>⟨h2,.inr h3⟩⟩
theorem xbe5 (hm:Tryz.prog.follows .mixedOrders=true):Sound Tryz.prog qay 162 (fun xs obs=>cond (qv1 xs obs) (SSGrow xs obs).eval none):=by
 intro xs obs out w Im ρ bl vs hs hpre
 obtain⟨h1,h2⟩:=qaa hs
 unfold qv1 at h1
 split at h1
 ·rename_i n
  have h2:some (Out.ret [.ref 0 0 0 true 1] [some ⟨.ints .u8 qa0,false⟩])=some out:=h2
  cases h2
  have hn:0<=n/\n<=100000000:=by unfold q1i at h1;rw[qab] at h1;exact of_decide_eq_true h1
  obtain⟨m,rfl⟩: ∃m:Nat,n=m:=⟨n.toNat,by omega⟩
  have hl:vs.length=2:=hpre.reps.1
  match vs,hl,hpre with
  | [va,vb],_,hpre=>
   have ra:=hpre.reps.2 0 _ _ rfl rfl
   have rb:=hpre.reps.2 1 _ _ rfl rfl
   cases ra
   obtain rfl:vb=.int .i64 m:=by
    cases rb with
    | cl _ _ h=>cases h;rfl
   refine .inl ⟨?_, ?_⟩
   ·have hn': ¬Tryz.f162.name= "runtime.NumGoroutine" :=of_decide_eq_true (by kernel_rfl)
    obtain⟨c,hc⟩: ∃c,Tryz.f162.body=some c:=⟨_,rfl⟩
    simp[callFunc,Tryz.func162,hn',hc]
   ·have e:qa0=[]:=qab _
    rw[e]
    have hg:Gam w.heap.size bl Im w Im ρ []:=hpre.gam
    by_cases hz:m=0
    ·subst hz
     refine(Any8.slices_Grow_room (xbeg hm) none 0 0 0 w (zar _) (by omega) (by omega) (zar _)).mono fun e w' ⟨he,hw⟩=> ?_
     subst he
     subst hw
     refine⟨[.slice none 0 0],Im,fun _=>none,rfl,⟨Fr.refl _ bl,xbfw hg (zar _) rfl ⟨rfl,rfl,trivial⟩ (fun b x y h=>by cases h),fun j o o' hj=>by cases hj⟩,rfl,fun j c v hj hv=> ?_⟩
     match j,hj,hv with
     | 0,hj,hv=>cases hj;cases hv;exact .refV 0 ⟨0,1,false⟩ true 1 rfl rfl rfl rfl
     | j+1,hj,hv=>cases hj
    ·obtain⟨i0,hi0,hi⟩:=zak.1 info5
     simp only[za5] at hi
     obtain⟨hi1,hi2,hi3⟩:=hi
     refine(Any8.slices_Grow_grow (xbeg hm) i0 (.int .u8 0) hi0 hi1 (by omega) none 0 0 m [] w (zar _) (by omega) (by rw[hi3];omega) (by omega) (by simp) (fun _=>rfl) (fun a h=>by cases h)).mono fun e w' ⟨he,hw⟩=> ?_
     have hG:0+m<=grownCap w (0+m) 0 (q1d.t 25):=grownCap_ge w _ _ _
     generalize grownCap w (0+m) 0 (q1d.t 25)=G at*
     subst he
     generalize hcs:([]:List Value).toArray++Builtin.zeroCells (Value.int .u8 0).cells (0+m - 0)++Builtin.zeroCells (Value.int .u8 0).cells (G - (0+m))=cs at hw
     have hsz:cs.size=G:=by
      rw[<- hcs,zdg,zdg,size_zeroCells,size_zeroCells]
      simp[Value.cells]
      omega
     have hheap:w'.heap=w.heap.push (.cells cs (q1d.t 25) (0,0)):=by rw[hw];rfl
     have hb:w'.heap[w.heap.size]? =some (.cells cs (q1d.t 25) (0,0)):=by rw[hheap];simp
     have hFr:Fr w bl w':=by
      refine⟨by rw[hw];rfl,by rw[hw];rfl,by rw[hw];rfl,by rw[hheap,zdk];omega,fun b hb' _=>by rw[hheap,zdj,if_neg (by omega)]⟩
     refine⟨[.slice (some ⟨w.heap.size,0,none⟩) 0 G],Im,fun _=>some (w.heap.size,0,G),rfl,⟨hFr,xbfw hg hFr.size rfl ⟨trivial,by rw[hheap];simp,za1 _,fun i hi=>⟨?_, ?_⟩,fun j c hj=>by simp[qai] at hj⟩ (fun b x y h=> ?_),fun j o o' hj=>by cases hj⟩,rfl,fun j c v hj hv=> ?_⟩
     ·simp[World.cell?,hb,hsz,hi]
     ·simp[World.frozen?,hb]
     ·cases h
      exact⟨by rw[hheap];simp,fun hI=>Nat.lt_irrefl _ (hg.im _ hI),zar _⟩
     ·match j,hj,hv with
      | 0,hj,hv=>
       cases hj
       cases hv
       exact .ref 0 0 0 true 1 ⟨0,1,false⟩ w.heap.size 0 G ⟨w.heap.size,0,none⟩ G rfl rfl rfl (za1 _) (zar _) (fun _=>rfl) (fun _=>rfl) (by omega)
      | j+1,hj,hv=>cases hj
 ·cases h1
def qs8:Go.Shelf.Ren:=⟨fun _=>79,fun t=>cond (Nat.beq t 25) 68 (cond (Nat.beq t 22) 40 t),fun g=>g⟩
theorem q5n (hm:Tryz.prog.follows .mixedOrders=true):Lays8.n4 Tryz.prog qs8 where
 mixed:=hm
 f4:=⟨Tryz.f79.name,by decide,by kernel_rfl⟩
 t0:=Tryz.underlying0
 a0:=fun w=>by kernel_rfl
 z0:=fun w=>by kernel_rfl
 v0:=fun w=>by kernel_rfl
 t3:=Tryz.underlying3
 a3:=fun w=>by kernel_rfl
 z3:=fun w=>by kernel_rfl
 v3:=fun w=>by kernel_rfl
 t4:=Tryz.underlying4
 a4:=fun w=>by kernel_rfl
 z4:=fun w=>by kernel_rfl
 v4:=fun w=>by kernel_rfl
 t9:=Tryz.underlying9
 a9:=fun w=>by kernel_rfl
 z9:=fun w=>by kernel_rfl
 v9:=fun w=>by kernel_rfl
 t20:=Tryz.underlying20
 a20:=fun w=>by kernel_rfl
 z20:=fun w=>by kernel_rfl
 v20:=fun w=>by kernel_rfl
 t22:=Tryz.underlying40
 a22:=fun w=>by kernel_rfl
 z22:=fun w=>by kernel_rfl
 v22:=fun w=>by kernel_rfl
theorem xb5p:(Tryz.prog.info? 68).map (fun i=>(i.zero,i.size,i.bytes))=some (some (.agg #[.int .i64 0,.slice none 0 0,.slice none 0 0]),3,56):=by kernel_rfl
theorem q7i {bl:Nat->Prop} {w w':World} {Im:Nat->Prop} {ρ ρ':Nat->Loc} {l:Loc} (h:Gam w.heap.size bl Im w Im ρ []) (hsz:w.heap.size<=w'.heap.size) (hρ:ρ' 0=l) (ho:ORep w' Im ρ' (shOf [(0,⟨.gen 3 [],false⟩)]) (.gen 3 []) l) (hl: ∀b x y,l=some (b,x,y)->b<w'.heap.size/\¬Im b/\w.heap.size<=b):
  Gam w.heap.size bl Im w' Im ρ' [(0,⟨.gen 3 [],false⟩)]:=by
 have one: ∀(p:Nat) (o:Obj),qal ([(0,⟨.gen 3 [],false⟩)]:Heap) p=some o->p=0/\o=⟨.gen 3 [],false⟩:=fun p o hp=>by
  simp only[qal] at hp
  cases hb:Nat.beq 0 p with
  | true=>rw[hb] at hp;cases hp;exact⟨(qaf.1 hb).symm,rfl⟩
  | false=>rw[hb] at hp;cases hp
 refine⟨fun b hb=>za9 (h.im b hb) hsz,h.i0,fun p o hp=> ?_,fun p q o o' b x y x' y' hp hq _ _ hne=> ?_,fun p o b x y hp hr=> ?_,h.imo⟩
 ·obtain⟨rfl,rfl⟩:=one p o hp
  rw[hρ]
  exact ho
 ·exact absurd ((one p o hp).1.trans (one q o' hq).1.symm) hne
 ·obtain⟨rfl,rfl⟩:=one p o hp
  rw[hρ] at hr
  obtain⟨h1,h2,h3⟩:=hl b x y hr
  exact⟨h1,fun e=>absurd e zb1,fun _=>⟨h2,.inr h3⟩⟩
theorem q9x (hm:Tryz.prog.follows .mixedOrders=true):Sound Tryz.prog qay 79 (fun xs obs=>cond (qqg xs obs) (xbds xs obs).eval none):=by
 intro xs obs out w Im ρ bl vs hs hpre
 obtain⟨h1,h2⟩:=qaa hs
 unfold qqg at h1
 split at h1
 ·rename_i n
  have h2:some (Out.ret [.ref 0 0 0 true 3] [some ⟨.gen 3 qb7,false⟩])=some out:=h2
  cases h2
  have hn:0<=n/\n<=100000000:=by unfold q1i at h1;rw[qab] at h1;exact of_decide_eq_true h1
  obtain⟨m,rfl⟩: ∃m:Nat,n=m:=⟨n.toNat,by omega⟩
  have hl:vs.length=2:=hpre.reps.1
  match vs,hl,hpre with
  | [va,vb],_,hpre=>
   have ra:=hpre.reps.2 0 _ _ rfl rfl
   have rb:=hpre.reps.2 1 _ _ rfl rfl
   cases ra
   obtain rfl:vb=.int .i64 m:=by
    cases rb with
    | cl _ _ h=>cases h;rfl
   refine .inl ⟨?_, ?_⟩
   ·have hn': ¬Tryz.f79.name= "runtime.NumGoroutine" :=of_decide_eq_true (by kernel_rfl)
    obtain⟨c,hc⟩: ∃c,Tryz.f79.body=some c:=⟨_,rfl⟩
    simp[callFunc,Tryz.func79,hn',hc]
   ·have e:qb7=[]:=qab _
    rw[e]
    have hg:Gam w.heap.size bl Im w Im ρ []:=hpre.gam
    by_cases hz:m=0
    ·subst hz
     refine(Any8.slices_Grow_room (q5n hm) none 0 0 0 w (zar _) (by omega) (by omega) (zar _)).mono fun e w' ⟨he,hw⟩=> ?_
     subst he
     subst hw
     refine⟨[.slice none 0 0],Im,fun _=>none,rfl,⟨Fr.refl _ bl,q7i hg (zar _) rfl ⟨rfl,rfl,fun c hc=>nomatch hc⟩ (fun b x y h=>by cases h),fun j o o' hj=>by cases hj⟩,rfl,fun j c v hj hv=> ?_⟩
     match j,hj,hv with
     | 0,hj,hv=>cases hj;cases hv;exact .refV 0 ⟨0,3,false⟩ true 3 rfl rfl rfl rfl
     | j+1,hj,hv=>cases hj
    ·obtain⟨i0,hi0,hi⟩:=zak.1 xb5p
     simp only[za5] at hi
     obtain⟨hi1,hi2,hi3⟩:=hi
     refine(Any8.slices_Grow_grow (q5n hm) i0 (.agg #[.int .i64 0,.slice none 0 0,.slice none 0 0]) hi0 hi1 (by omega) none 0 0 m [] w (zar _) (by omega) (by rw[hi3];omega) (by omega) (by simp) (fun _=>rfl) (fun a h=>by cases h)).mono fun e w' ⟨he,hw⟩=> ?_
     have hG:0+m<=grownCap w (0+m) 0 (qs8.t 25):=grownCap_ge w _ _ _
     generalize grownCap w (0+m) 0 (qs8.t 25)=G at*
     subst he
     generalize hcs:([]:List Value).toArray++Builtin.zeroCells (Value.agg #[.int .i64 0,.slice none 0 0,.slice none 0 0]).cells (0+m - 0)++Builtin.zeroCells (Value.agg #[.int .i64 0,.slice none 0 0,.slice none 0 0]).cells (G - (0+m))=cs at hw
     have hsz:cs.size=G*3:=by
      rw[<- hcs,zdg,zdg,size_zeroCells,size_zeroCells]
      simp[Value.cells]
      omega
     have hheap:w'.heap=w.heap.push (.cells cs (qs8.t 25) (0,0)):=by rw[hw];rfl
     have hb:w'.heap[w.heap.size]? =some (.cells cs (qs8.t 25) (0,0)):=by rw[hheap];simp
     have hFr:Fr w bl w':=by
      refine⟨by rw[hw];rfl,by rw[hw];rfl,by rw[hw];rfl,by rw[hheap,zdk];omega,fun b hb' _=>by rw[hheap,zdj,if_neg (by omega)]⟩
     refine⟨[.slice (some ⟨w.heap.size,0,none⟩) 0 G],Im,fun _=>some (w.heap.size,0,G*3),rfl,⟨hFr,q7i hg hFr.size rfl ⟨(fun c hc=>nomatch hc),by rw[hheap];simp,za1 _,fun i hi=>⟨?_, ?_⟩,fun j c hj=>by simp[qai] at hj⟩ (fun b x y h=> ?_),fun j o o' hj=>by cases hj⟩,rfl,fun j c v hj hv=> ?_⟩
     ·simp[World.cell?,hb,hsz,hi]
     ·simp[World.frozen?,hb]
     ·cases h
      exact⟨by rw[hheap];simp,fun hI=>Nat.lt_irrefl _ (hg.im _ hI),zar _⟩
     ·match j,hj,hv with
      | 0,hj,hv=>
       cases hj
       cases hv
       exact .ref 0 0 0 true 3 ⟨0,3,false⟩ w.heap.size 0 (G*3) ⟨w.heap.size,0,none⟩ G rfl rfl rfl (za1 _) (zar _) (fun _=>rfl) (fun _=>rfl) (by omega)
      | j+1,hj,hv=>cases hj
 ·cases h1
theorem qew {P:Program} {glob:Nat->Option CV} {g:FuncId} {p:List V->List Obj->Bool} {q:Nat->List V->List Obj->Bool} {S:List V->List Obj->Tree} (h: ∀rk,Sound P glob g (fun xs obs=>cond (q rk xs obs) (S xs obs).eval none)) (hp: ∀xs obs,p xs obs=true->∃rk,q rk xs obs=true):
  Sound P glob g (fun xs obs=>cond (p xs obs) (S xs obs).eval none):=by
 intro xs obs out w Im ρ bl vs hs
 obtain⟨h1,h2⟩:=qaa hs
 obtain⟨rk,hq⟩:=hp xs obs h1
 exact h rk xs obs out w Im ρ bl vs (by show cond (q rk xs obs) _ _=_;rw[hq];exact h2)
theorem qhz {P:Program} {glob:Nat->Option CV} {g:FuncId} {p:List V->List Obj->Bool} {S:List V->List Obj->Tree} (h: ∀xs obs, ¬p xs obs=true):Sound P glob g (fun xs obs=>cond (p xs obs) (S xs obs).eval none):=by
 intro xs obs out w Im ρ bl vs hs
 exact absurd (qaa hs).1 (h xs obs)
theorem qs3 {P:Program} {glob:Nat->Option CV} {g:FuncId} {p:List V->List Obj->Bool}:Sound P glob g (fun xs obs=>cond (p xs obs) ((fun _ _=>Tree.fail:List V->List Obj->Tree) xs obs).eval none):=by
 intro xs obs out w Im ρ bl vs hs
 cases(qaa hs).2
abbrev MX:Prop:=Tryz.prog.follows .mixedOrders=true
abbrev TK (B:Nat->Ct):Prop:=MX->xbho Tryz.prog qay B
abbrev OKS (g:FuncId) (p:List V->List Obj->Bool) (S:List V->List Obj->Tree):Prop:=Sound Tryz.prog qay g (fun xs obs=>cond (p xs obs) (S xs obs).eval none)
theorem xbqe:TK BDigits:=fun _=>tab0
theorem xb08:TK BDLeap:=tc0 EDigits KDigits xbqe Tryz.func172 fun xs obs y h hp=>by
  unfold KDigits at h
  split at h<;>cases h
  exact tr (xb1m _ hp)
theorem xbzy:TK BDDays:=tc0 EDLeap KDLeap xb08 Tryz.func195 fun xs obs y h hp=>by
  unfold KDLeap at h
  split at h<;>cases h
  rename_i d0 d1 d2 d3 d4 d5;exact tr (xb4w d0 d1 d2 d3 d4 d5 hp)
theorem xb4q:TK BDFit:=tc0 EDDays KDDays xbzy Tryz.func191 fun xs obs y h hp=>by
  unfold KDDays at h
  split at h<;>cases h
  rename_i d0 d1 d2 d3 d4 d5;exact tr (xb56 d0 d1 d2 d3 d4 d5 hp)
theorem xbvv:TK BDSecs:=tc0 EDFit KDFit xb4q Tryz.func173 fun xs obs y h hp=>by
  unfold KDFit at h
  split at h<;>cases h
  exact tr (xb8v _ _ _ _ _ _ hp)
theorem xbzi:TK BSRead:=tc0 EDSecs KDSecs xbvv Tryz.func174 fun xs obs y h hp=>by
  unfold KDSecs at h
  split at h<;>cases h
  exact tr (xb6y _ _ _ _ _ _ hp)
theorem xbu3:TK BRLeap:=tc0 ESRead KSRead xbzi Tryz.func136 fun xs obs y h hp=>by
  unfold KSRead at h
  split at h<;>cases h
  exact tr (xb5e _ hp)
theorem xbwc:TK BRDays:=tc0 ERLeap KRLeap xbu3 Tryz.func193 fun xs obs y h hp=>by
  unfold KRLeap at h
  split at h<;>cases h
  exact tr (xb36 _ hp)
theorem xbrx:TK BRYears:=tc0 ERDays KRDays xbwc Tryz.func181 fun xs obs y h hp=>by
  unfold KRDays at h
  split at h<;>cases h
  exact tr (xb5y _ _ hp)
theorem xbj8:TK BRNumber:=tc0 ERYears KRYears xbrx Tryz.func182 fun xs obs y h hp=>by
  unfold KRYears at h
  split at h<;>cases h
  exact tr (xbxp _ hp)
theorem xb0v:TK BRRead:=tcT ERNumber KRNumber xbj8 Tryz.func180 [(true,3)] ⟨⟨_,rfl,q1a⟩,trivial⟩ fun xs obs y h hp=>by
  unfold KRNumber at h
  split at h<;>cases h
  exact tr (xbrd _ hp)
theorem xbs3:TK BDBoxed:=tcT ERRead KRRead xb0v Tryz.func148 [(true,13)] ⟨⟨_,rfl,q3g⟩,trivial⟩ fun xs obs y h hp=>by
  unfold KRRead at h
  split at h<;>cases h
  exact tr (xb4d _ hp)
theorem xbq1:TK BRBoxed:=tc0 EDBoxed KDBoxed xbs3 Tryz.func50 fun xs obs y h hp=>by
  unfold KDBoxed at h
  split at h<;>cases h
  exact tr (xbz8 _ hp)
theorem xbrf:TK BDKnown:=tc0 ERBoxed KRBoxed xbq1 Tryz.func103 fun xs obs y h hp=>by
  unfold KRBoxed at h
  split at h<;>cases h
  exact tr (xb0s _ hp)
theorem xbi9:TK BRTagged:=tc0 EDKnown KDKnown xbrf Tryz.func87 fun xs obs y h hp=>by
  unfold KDKnown at h
  split at h<;>cases h
  exact tr (xbzb _ hp)
theorem xbbj:TK qv8:=tc0 ERTagged KRTagged xbi9 Tryz.func101 fun xs obs y h hp=>by
  unfold KRTagged at h
  split at h<;>cases h
  exact tr (xbuc _ hp)
theorem xbku:TK BDNumber:=tc0 xbke qnt xbbj Tryz.func121 fun xs obs y h hp=>by
  unfold qnt at h
  split at h<;>cases h
  exact tr (xbkf _ hp)
theorem xbkb:TK q5d:=tc0 EDNumber KDNumber xbku Tryz.func132 fun xs obs y h hp=>by
  unfold KDNumber at h
  split at h<;>cases h
  exact tr (xbq7 _ hp)
theorem xbts:TK BDStrip:=tc0 xbqm q4f xbkb Tryz.func145 fun xs obs y h hp=>by
  unfold q4f at h
  split at h<;>cases h
  exact tr (xbs2 _ hp)
theorem xbcn:TK qy2:=tc0 EDStrip KDStrip xbts Tryz.func133 fun xs obs y h hp=>by
  unfold KDStrip at h
  split at h<;>cases h
  exact tr (xb1v _ hp)
theorem xbxn:TK BRCont:=tc0 xbi7 qy0 xbcn Tryz.func146 fun xs obs y h hp=>by
  unfold qy0 at h
  split at h<;>cases h
  exact tr (xbi5 _ hp)
theorem xb2n:TK BRRune:=tc0 ERCont KRCont xbxn Tryz.func192 fun xs obs y h hp=>by
  unfold KRCont at h
  split at h<;>cases h
  exact tr (xb6d _ _ hp)
theorem xbvk:TK BRUtf8:=tcT ERRune KRRune xb2n Tryz.func179 [(false,10),(false,8)] ⟨⟨_,rfl,q3f⟩,⟨_,rfl,q87⟩,trivial⟩ fun xs obs y h hp=>by
  unfold KRRune at h
  split at h<;>cases h
  exact tr (xb3e _ _ hp)
theorem xb45:TK BOFit:=tcT ERUtf8 KRUtf8 xbvk Tryz.func147 [(true,2)] ⟨⟨_,rfl,q8o⟩,trivial⟩ fun xs obs y h hp=>by
  unfold KRUtf8 at h
  split at h<;>cases h
  exact tr (xb3s _ hp)
theorem xb0h:TK BR2Fit:=tc0 EOFit KOFit xb45 Tryz.func170 fun xs obs y h hp=>by
  unfold KOFit at h
  split at h<;>cases h
  exact tr (xb8l _ hp)
theorem xbkt:TK BR2First:=tc0 ER2Fit KR2Fit xb0h Tryz.func150 fun xs obs y h hp=>by
  unfold KR2Fit at h
  split at h<;>cases h
  exact tr (xb30 _ hp)
theorem xbh6:TK BONumber:=tc0 ER2First KR2First xbkt Tryz.func149 fun xs obs y h hp=>by
  unfold KR2First at h
  split at h<;>cases h
  exact tr (xbs5 _ hp)
theorem q01:TK BONumbers:=tcT EONumber KONumber xbh6 Tryz.func190 [(true,3)] ⟨⟨_,rfl,qzp⟩,trivial⟩ fun xs obs y h hp=>by
  unfold KONumber at h
  split at h<;>cases h
  exact tr (xbup _ hp)
theorem qzy (hm:MX):OKc Tryz.prog qay 169 KONumbers:=
 rs0 (E:=EONumbers) (N:=40) (keep:=true) (q01 hm) hm Tryz.func169 (by kernel_rfl) fun xs obs y h hp=>by
  unfold KONumbers at h
  split at h<;>cases h
  exact tr (xbhs _ hp)
theorem xbml:TK BARoot:=fun hm=>tabC (K:=KONumbers) (qzy hm) (q01 hm)
theorem xbe3 (hm:MX):OKc Tryz.prog qay 176 KARoot:=
 rs0 (E:=EARoot) (N:=40) (keep:=true) (xbml hm) hm Tryz.func176 (by kernel_rfl) fun xs obs y h hp=>by
  unfold KARoot at h
  split at h
  ·cases h;exact tr (xbt0 hp)
  ·cases h;exact tr (xbof hp)
  ·cases h;exact tr (xbp4 hp)
  ·cases h;exact tr (xbta hp)
  ·cases h;exact tr (xbqc hp)
  ·cases h;exact tr (xbsu hp)
  ·cases h
theorem qwn:TK BOParse:=fun hm=>tabC (K:=KARoot) (xbe3 hm) (xbml hm)
theorem xbra (hm:MX): ∀xs obs ys,xbbx xs obs=true->QONums xs obs=some ys->xbxg Tryz.prog qay 189 xs obs ys:=by
 intro xs obs ys hp h
 unfold QONums at h
 split at h
 ·rename_i b
  cases h
  have hE: ∀(l:Nat) (g:FuncId),Sound Tryz.prog (EONums l).glob g (ctr (EONums l) g):=fun l g=>(qah (qwn hm 190) qbz)
  refine q69 (N:=40) EONums hE hm (fun _=>rfl) (fun _=>rfl) (fun _=>rfl) Tryz.func189 rfl xbec (fun _=>rfl) (by decide) rfl fun l=> ?_
  obtain⟨out,h1,h2⟩:=xb6p l b hp
  exact⟨out,(xbkj l b).trans h1,h2⟩
 ·cases h
theorem xbov (hm:MX):qer Tryz.prog EOParse:=by
 intro gf xs obs ys hp h
 have h:(cond (Nat.beq gf 189) QONums (fun _ _=>none)) xs obs=some ys:=h
 cases hb:Nat.beq gf 189 with
 | false=>rw[hb] at h;cases h
 | true=>
  obtain rfl:=qaf.1 hb
  exact⟨xbra hm xs obs ys hp h,_,Tryz.func189,rfl,rfl⟩
theorem q90 (hm:MX):OKS 134 qwx SOParse:=
 qb0 (E:=EOParse) (N:=40) (keep:=false) hm (fun g=>(qah (qwn hm 169) (qah (qwn hm 170) qs3))) Tryz.func134 rfl rfl q74 rfl (hsq:=xbov hm) (hS:=by
  intro xs obs out hp h
  unfold SOParse at h
  split at h
  ·refine⟨by simp[Tryz.f134], ?_⟩
   rw[xbgi]
   exact(xbv6 _ hp).trans h
  ·cases h)
theorem xbk9:TK BR2Parse:=fun hm=>tabC (K:=ofS qwx SOParse) (q90 hm) (qwn hm)
theorem xbsc:TK BR1Same:=tcT ER2Parse KR2Parse xbk9 Tryz.func107 [(true,5)] ⟨⟨_,rfl,q1j⟩,trivial⟩ fun xs obs y h hp=>by
  unfold KR2Parse at h
  split at h<;>cases h
  exact tr (xbty _ hp)
theorem xbtm:TK BSClone:=tcT ER1Same KR1Same xbsc Tryz.func14 [(true,4)] ⟨⟨_,rfl,q5c⟩,trivial⟩ fun xs obs y h hp=>by
  unfold KR1Same at h
  split at h<;>cases h
  exact tr (xbwk _ _ hp)
theorem xbu0:TK BR1Num:=tc0 ESClone KSClone xbtm Tryz.func91 fun xs obs y h hp=>by
  unfold KSClone at h
  split at h<;>cases h
  exact tr (xbwz _ hp)
theorem xbin:TK BRLength:=tcT ER1Num KR1Num xbu0 Tryz.func144 [(true,3)] ⟨⟨_,rfl,q8d⟩,trivial⟩ fun xs obs y h hp=>by
  unfold KR1Num at h
  split at h<;>cases h
  exact tr (xb58 _ hp)
theorem xboz:TK BR4Less:=tc0 ERLength KRLength xbin Tryz.func102 fun xs obs y h hp=>by
  unfold KRLength at h
  split at h<;>cases h
  exact tr (xbt4 _ hp)
theorem xb0x:TK BUWord:=tcT ER4Less KR4Less xboz Tryz.func111 [(true,2)] ⟨⟨_,rfl,q2h⟩,trivial⟩ fun xs obs y h hp=>by
  unfold KR4Less at h
  split at h<;>cases h
  exact tr (xbu7 _ _ hp)
theorem xbtl:TK BUValid:=tc0 EUWord KUWord xb0x Tryz.func171 fun xs obs y h hp=>by
  unfold KUWord at h
  split at h<;>cases h
  exact tr (xb44 _ hp)
theorem xbw3:TK BDFits:=tcT EUValid KUValid xbtl Tryz.func135 [(true,10),(true,2)] ⟨⟨_,rfl,qz7⟩,⟨_,rfl,q3u⟩,trivial⟩ fun xs obs y h hp=>by
  unfold KUValid at h
  split at h<;>cases h
  exact tr (xbzl _ hp)
theorem xbv5:TK BRFits:=tc0 EDFits KDFits xbw3 Tryz.func90 fun xs obs y h hp=>by
  unfold KDFits at h
  split at h<;>cases h
  exact tr (xb0q _ _ hp)
theorem xbbu:TK BR4Sorted:=tc0 ERFits KRFits xbv5 Tryz.func104 fun xs obs y h hp=>by
  unfold KRFits at h
  split at h<;>cases h
  exact tr (xb6b _ _ hp)
theorem q9i:TK BBACompare:=tcT ER4Sorted KR4Sorted xbbu Tryz.func105 [(true,2)] ⟨⟨_,rfl,qwz⟩,trivial⟩ fun xs obs y h hp=>by
  unfold KR4Sorted at h
  split at h<;>cases h
  exact tr (xbk1 _ hp)
theorem xbc5:TK BBCompare:=fun hm=>tabC (K:=ofS qi9 SBACompare) (qw9 hm) (q9i hm)
theorem xbv1:TK BOLess:=tc0 EBCompare KBCompare xbc5 Tryz.func161 fun xs obs y h hp=>by
  unfold KBCompare at h
  split at h<;>cases h
  exact tr (xbjk _ _ hp)
theorem xbua:TK BOSteps:=tc0 EOLess KOLess xbv1 Tryz.func160 fun xs obs y h hp=>by
  unfold KOLess at h
  split at h<;>cases h
  exact tr (xb5d _ _ hp)
theorem xbk6:TK BOSorted:=tcT EOSteps KOSteps xbua Tryz.func159 [(true,2)] ⟨⟨_,rfl,q1x⟩,trivial⟩ fun xs obs y h hp=>by
  unfold KOSteps at h
  split at h<;>cases h
  exact tr (xbw6 _ hp)
theorem qo5:TK xbl2:=tc0 EOSorted KOSorted xbk6 Tryz.func123 fun xs obs y h hp=>by
  unfold KOSorted at h
  split at h<;>cases h
  exact tr (xbqq _ hp)
theorem qss (hm:MX): ∀rk,OKS 59 (qsp rk) quw
 | 0=>qhz fun xs obs h=>by
  unfold qsp at h
  split at h
  ·simp at h
  ·cases h
 | rk+1=>qb0 (E:=q5v rk) (N:=40) (keep:=false) hm (fun g=>(qah (qss hm rk) (qah (qo5 hm 101) (qah (qo5 hm 102) (qah (qo5 hm 103) (qah (qo5 hm 104) (qah (qo5 hm 105) qbz))))))) Tryz.func59 rfl rfl (q98 rk) rfl (by
  intro xs obs out hp h
  unfold quw at h
  split at h
  ·refine⟨by simp[Tryz.f59], ?_⟩
   rw[xbcc]
   exact(xb0d rk _ _ hp).trans h
  ·cases h)
theorem q9c (hm:MX):OKS 59 qqw quw:=
 qew (fun rk=>qss hm rk) fun xs obs h=>by
  unfold qqw at h
  split at h
  ·rename_i b deep
   simp only[zab] at h
   refine⟨deep.toNat+1, ?_⟩
   show(qad b&&(qck deep&&decide (deep.toNat<deep.toNat+1)))=true
   simp only[zab,decide_eq_true_eq]
   exact⟨h.1,h.2,by omega⟩
  ·cases h
theorem xbq3:TK BRParse:=fun hm=>tabC (K:=ofS qqw quw) (q9c hm) (qo5 hm)
theorem xb1w:TK BDMust:=tc0 ERParse KRParse xbq3 Tryz.func30 fun xs obs y h hp=>by
  unfold KRParse at h
  split at h<;>cases h
  exact tr (xbzx _ hp)
theorem xbvc:TK BDNext:=tc0 EDMust KDMust xb1w Tryz.func49 fun xs obs y h hp=>by
  unfold KDMust at h
  split at h
  ·cases h;rename_i e;exact tr (xbqk e hp)
  ·cases h;exact tr (xbrn _ hp)
  ·cases h
theorem xbil:TK BDLength:=tc0 EDNext KDNext xbvc Tryz.func86 fun xs obs y h hp=>by
  unfold KDNext at h
  split at h<;>cases h
  exact tr (xb6h _ _ hp)
theorem qhb:TK BDValue:=tcT EDLength KDLength xbil Tryz.func88 [(true,7)] ⟨⟨_,rfl,q0d⟩,trivial⟩ fun xs obs y h hp=>by
  unfold KDLength at h
  split at h<;>cases h
  exact tr (xbt9 _ _ hp)
theorem qrs (hm:MX) (rk:Nat) (hV:OKS 48 (qkb rk) SDValue):OKS 89 (qru rk) SDParts:=
 qb0 (E:=EDParts rk) (N:=40) (keep:=false) hm (fun g=>(qah (hV) (qah (qhb hm 49) (qah (qhb hm 123) qbz)))) Tryz.func89 rfl rfl (q9j rk) rfl (by
  intro xs obs out hp h
  unfold SDParts at h
  split at h
  ·refine⟨by simp[Tryz.f89], ?_⟩
   rw[xbgu]
   exact(xbzq rk _ _ _ _ hp).trans h
  ·cases h)
theorem q3p (hm:MX) (rk:Nat) (hP:OKS 89 (qru rk) SDParts):OKS 48 (qkb (rk+1)) SDValue:=
 qb0 (E:=EDValue rk) (N:=40) (keep:=false) hm (fun g=>(qah (qhb hm 49) (qah (qhb hm 50) (qah (qhb hm 86) (qah (qhb hm 87) (qah (qhb hm 88) (qah (hP) (qah (qhb hm 90) (qah (qhb hm 91) qbz))))))))) Tryz.func48 rfl rfl (q9v rk) rfl (by
  intro xs obs out hp h
  unfold SDValue at h
  split at h
  ·refine⟨by simp[Tryz.f48], ?_⟩
   rw[xbde]
   exact(xb19 rk _ _ hp).trans h
  ·cases h)
theorem xbcp (hm:MX): ∀rk,OKS 48 (qkb rk) SDValue
 | 0=>qhz fun xs obs h=>by
  unfold qkb at h
  split at h
  ·simp at h
  ·cases h
 | rk+1=>q3p hm rk (qrs hm rk (xbcp hm rk))
theorem qt9 (hm:MX):OKS 48 qm1 SDValue:=
 qew (fun rk=>xbcp hm rk) fun xs obs h=>by
  unfold qm1 at h
  split at h
  ·rename_i l d
   simp only[zab] at h
   refine⟨d.toNat+1, ?_⟩
   show(qad l&&(qck d&&decide (d.toNat<d.toNat+1)))=true
   simp only[zab,decide_eq_true_eq]
   exact⟨h.1,h.2,by omega⟩
  ·cases h
theorem q9t (hm:MX):OKS 89 qqo SDParts:=
 qew (fun rk=>qrs hm rk (xbcp hm rk)) fun xs obs h=>by
  unfold qqo at h
  split at h
  ·rename_i tag b l d
   simp only[zab,decide_eq_true_eq] at h
   refine⟨d.toNat, ?_⟩
   show(qad b&&(qck d&&decide (0<d/\d.toNat<d.toNat+1)))=true
   simp only[zab,decide_eq_true_eq]
   exact⟨h.1,h.2.1,h.2.2,by omega⟩
  ·cases h
theorem xbt2:TK BDParts:=fun hm=>tabC (K:=ofS qm1 SDValue) (qt9 hm) (qhb hm)
theorem xbb4:TK BDParse:=fun hm=>tabC (K:=ofS qqo SDParts) (q9t hm) (xbt2 hm)
theorem xbj0 (hm:MX):DSound Tryz.prog qay 47 (fun m xs obs=>cond (qtk m xs obs) (DDCatch m xs obs) none):=by
 have hE: ∀g,Sound Tryz.prog EDCatch.glob g (ctr EDCatch g):=fun g=>qbz
 refine xbi2 (E:=EDCatch) (N:=40) hE (qtb rfl) rfl (qmy hE hm) rfl Tryz.func47 q8n rfl ?_
 intro m xs obs out h
 obtain⟨hp,h⟩:=qaa h
 unfold DDCatch at h
 split at h
 ·refine⟨by simp[Tryz.f47], ?_⟩
  rw[q3c]
  exact h
 ·refine⟨by simp[Tryz.f47], ?_⟩
  rw[q5a]
  exact h
 ·refine⟨by simp[Tryz.f47], ?_⟩
  rw[q4t]
  exact h
 ·cases h
theorem q76 (hm:MX):OKS 23 qyx SDParse:=by
 have hE: ∀g,Sound Tryz.prog EDParse.glob g (ctr EDParse g):=fun g=>(qah (qt9 hm) (qah (xbb4 hm 49) qbz))
 refine q91 (E:=EDParse) (D:=DEDParse) (N:=40) (keep:=false) hE (qtb rfl) (qmy hE hm) (fun g=> ?_) (fun g m xs obs out h=> ?_) rfl Tryz.func23 rfl rfl rfl q94 rfl (fun xs obs out h=> ?_)
 ·show DSound Tryz.prog qay g fun m xs obs=>cond ((cond (Nat.beq g 47) qtk (fun _ _ _=>false)) m xs obs) ((cond (Nat.beq g 47) DDCatch (fun _ _ _=>none)) m xs obs) none
  cases hb:Nat.beq g 47 with
  | true=>obtain rfl:=qaf.1 hb;exact xbj0 hm
  | false=>intro m xs obs out w Im ρ bl vs u h;cases h
 ·have h:(cond (Nat.beq g 47) DDCatch (fun _ _ _=>none)) m xs obs=some out:=h
  cases hb:Nat.beq g 47 with
  | true=>obtain rfl:=qaf.1 hb;exact⟨_,Tryz.func47,rfl,rfl⟩
  | false=>rw[hb] at h;cases h
 ·obtain⟨hp,h⟩:=qaa h
  unfold SDParse at h
  split at h
  ·refine⟨by simp[Tryz.f23], ?_⟩
   rw[xbdq]
   exact(xb2g _ hp).trans h
  ·cases h
theorem xbr0:TK BSEqual:=fun hm=>tabC (K:=ofS qyx SDParse) (q76 hm) (xbb4 hm)
theorem q08:TK BDSize:=tcT ESEqual KSEqual xbr0 Tryz.func84 [(true,4)] ⟨⟨_,rfl,q1y⟩,trivial⟩ fun xs obs y h hp=>by
  unfold KSEqual at h
  split at h<;>cases h
  exact tr (xbu8 _ _ hp)
theorem quf (hm:MX): ∀rk,OKS 73 (qlb rk) SDSize
 | 0=>qhz fun xs obs h=>by
  unfold qlb at h
  split at h
  ·simp only[zab] at h;have:=(qkv h.1).1;simp[isTf] at this
  ·cases h
 | rk+1=>qb0 (E:=EDSize rk) (N:=40) (keep:=false) hm (fun g=>(qah (q08 hm 50) (qah (quf hm rk) (qah (q08 hm 87) (qah (q08 hm 90) (qah (q08 hm 121) qbz)))))) Tryz.func73 rfl rfl (xbf0 rk) rfl (by
  intro xs obs out hq h
  have hp:qlb (rk+1) xs obs=true:=hq
  have hp0:qlb (rk+1) xs obs=true:=hq
  clear hq
  unfold qlb at hp
  split at hp
  ·rename_i a n
   try simp only[zab] at hp
   have ha:=(qkv hp.1).1
   obtain⟨_,ta,ba,ka,_,rfl,_⟩:=qds ha
   refine⟨by simp[Tryz.f73], ?_⟩
   rw[xbir]
   exact(xb52 rk ta ba ka n hp0).trans h
  ·cases hp)
theorem q0b (hm:MX):OKS 73 qtn SDSize:=
 qew (fun rk=>quf hm rk) fun xs obs h=>by
  unfold qtn at h
  split at h
  ·rename_i a n
   simp only[zab] at h
   obtain⟨n',hn,hb⟩:=qdx h.1
   refine⟨n', ?_⟩
   show(isSr n' a&&qck n)=true
   rw[q7f hn hb,h.2];rfl
  ·cases h
theorem xbxx:TK BDPut:=fun hm=>tabC (K:=ofS qtn SDSize) (q0b hm) (q08 hm)
theorem xbit (hm:MX):OKc Tryz.prog qay 122 KDPut:=
 rs (E:=EDPut) (N:=40) (keep:=true) (xbxx hm) hm Tryz.func122 (lsB (ids:=[(true,7)]) (by kernel_rfl) ⟨⟨_,rfl,xbbb⟩,trivial⟩) fun xs obs y h hp=>by
  unfold KDPut at h
  split at h<;>cases h
  exact tr (xb72 _ _ hp)
theorem xbn1:TK BRHead:=fun hm=>tabC (K:=KDPut) (xbit hm) (xbxx hm)
theorem xba4 (hm:MX):OKc Tryz.prog qay 128 KRHead:=
 rs0 (E:=ERHead) (N:=40) (keep:=true) (xbn1 hm) hm Tryz.func128 (by kernel_rfl) fun xs obs y h hp=>by
  unfold KRHead at h
  split at h<;>cases h
  exact tr (xb54 _ _ hp)
theorem xbph:TK BR1Join:=fun hm=>tabC (K:=KRHead) (xba4 hm) (xbn1 hm)
theorem xbv0:TK BSGrow:=tcT ER1Join KR1Join xbph Tryz.func129 [(true,3)] ⟨⟨_,rfl,q3h⟩,trivial⟩ fun xs obs y h hp=>by
  unfold KR1Join at h
  split at h<;>cases h
  exact tr (xbyx _ hp)
theorem xbi3:TK BSConcat:=fun hm=>tabC (K:=ofS qv1 SSGrow) (xbe5 hm) (xbv0 hm)
theorem qr1:TK BDWrite:=tcT ESConcat KSConcat xbi3 Tryz.func124 [(true,3),(true,11)] ⟨⟨_,rfl,q06⟩,⟨_,rfl,qxy⟩,trivial⟩ fun xs obs y h hp=>by
  unfold KSConcat at h
  split at h<;>cases h
  exact tr (xbtx _ hp)
theorem qsv (hm:MX): ∀rk,OKS 74 (qh3 rk) SDWrite
 | 0=>qhz fun xs obs h=>by
  unfold qh3 at h
  split at h
  ·have:=(qxz h).1;simp[isTf] at this
  ·cases h
 | rk+1=>qb0 (E:=EDWrite rk) (N:=40) (keep:=false) hm (fun g=>(qah (qr1 hm 50) (qah (qsv hm rk) (qah (qr1 hm 122) (qah (qr1 hm 123) (qah (qr1 hm 124) qbz)))))) Tryz.func74 rfl rfl (q95 rk) rfl (by
  intro xs obs out hq h
  have hp:qh3 (rk+1) xs obs=true:=hq
  have hp0:qh3 (rk+1) xs obs=true:=hq
  clear hq
  unfold qh3 at hp
  split at hp
  ·rename_i a
   try simp only[zab] at hp
   have ha:=(qxz hp).1
   obtain⟨_,ta,ba,ka,_,rfl,_⟩:=qds ha
   refine⟨by simp[Tryz.f74], ?_⟩
   rw[xbgr]
   exact(xbvm rk ta ba ka hp0).trans h
  ·cases hp)
theorem qu4 (hm:MX):OKS 74 qnk SDWrite:=
 qew (fun rk=>qsv hm rk) fun xs obs h=>by
  unfold qnk at h
  split at h
  ·rename_i a
   unfold isW at h
   rw[qab] at h
   obtain⟨n,hn⟩:=@of_decide_eq_true _ (Classical.propDecidable _) h
   exact⟨n,xbod hn⟩
  ·cases h
theorem ql9:TK BRWrite:=fun hm=>tabC (K:=ofS qnk SDWrite) (qu4 hm) (qr1 hm)
theorem qsm (hm:MX): ∀rk,OKS 77 (qii rk) SRWrite
 | 0=>qhz fun xs obs h=>by
  unfold qii at h
  split at h
  ·simp only[zab] at h;have:=(qkv h.1).1;simp[isTf] at this
  ·cases h
 | rk+1=>qb0 (E:=ERWrite rk) (N:=40) (keep:=false) hm (fun g=>(qah (qsm hm rk) (qah (ql9 hm 101) (qah (ql9 hm 103) (qah (ql9 hm 104) (qah (ql9 hm 105) (qah (ql9 hm 128) (qah (ql9 hm 129) qbz)))))))) Tryz.func77 rfl rfl (q9a rk) rfl (by
  intro xs obs out hq h
  have hp:qii (rk+1) xs obs=true:=hq
  have hp0:qii (rk+1) xs obs=true:=hq
  clear hq
  unfold qii at hp
  split at hp
  ·rename_i a n
   try simp only[zab] at hp
   have ha:=(qkv hp.1).1
   obtain⟨_,ta,ba,ka,_,rfl,_⟩:=qds ha
   refine⟨by simp[Tryz.f77], ?_⟩
   rw[xbgw]
   exact(xb1c rk ta ba ka n hp0).trans h
  ·cases hp)
theorem qu5 (hm:MX):OKS 77 qno SRWrite:=
 qew (fun rk=>qsm hm rk) fun xs obs h=>by
  unfold qno at h
  split at h
  ·rename_i a n
   simp only[zab] at h
   obtain⟨n',hn,hb⟩:=qdx h.1
   refine⟨n', ?_⟩
   show(isSr n' a&&qck n)=true
   rw[q7f hn hb,h.2];rfl
  ·cases h
theorem xbrw:TK BDBytes:=fun hm=>tabC (K:=ofS qno SRWrite) (qu5 hm) (ql9 hm)
theorem quh (hm:MX):OKS 36 qja SDBytes:=
 qb0 (E:=EDBytes) (N:=40) (keep:=false) hm (fun g=>(qah (q0b hm) (qah (qu4 hm) qbz))) Tryz.func36 rfl rfl q8e rfl (by
  intro xs obs out hq h
  have hp:qja xs obs=true:=hq
  have hp0:qja xs obs=true:=hq
  clear hq
  unfold qja at hp
  split at hp
  ·rename_i a
   try simp only[zab] at hp
   obtain⟨_,ha,_⟩:=qdx hp
   obtain⟨_,ta,ba,ka,_,rfl,_⟩:=qds ha
   refine⟨by simp[Tryz.f36], ?_⟩
   rw[xbdi]
   exact(xb15 ta ba ka hp0).trans h
  ·cases hp)
theorem xb1d:TK xbwi:=fun hm=>tabC (K:=ofS qja SDBytes) (quh hm) (xbrw hm)
theorem xbbz (hm:MX):OKS 72 qpd xbsl:=
 qb0 (E:=xbpj) (N:=40) (keep:=false) hm (fun g=>(qah (quh hm) qbz)) Tryz.func72 rfl rfl xbd4 rfl (by
  intro xs obs out hq h
  have hp:qpd xs obs=true:=hq
  have hp0:qpd xs obs=true:=hq
  clear hq
  unfold qpd at hp
  split at hp
  ·rename_i a
   try simp only[zab] at hp
   obtain⟨_,ha,_⟩:=qdx hp
   obtain⟨_,ta,ba,ka,_,rfl,_⟩:=qds ha
   refine⟨by simp[Tryz.f72], ?_⟩
   rw[xbib]
   exact(xb5j ta ba ka hp0).trans h
  ·cases hp)
theorem xbrv:TK BRBytes:=fun hm=>tabC (K:=ofS qpd xbsl) (xbbz hm) (xb1d hm)
theorem que (hm:MX):OKS 38 qiz SRBytes:=
 qb0 (E:=ERBytes) (N:=40) (keep:=false) hm (fun g=>(qah (qu5 hm) qbz)) Tryz.func38 rfl rfl q9e rfl (by
  intro xs obs out hq h
  have hp:qiz xs obs=true:=hq
  have hp0:qiz xs obs=true:=hq
  clear hq
  unfold qiz at hp
  split at hp
  ·rename_i a
   try simp only[zab] at hp
   obtain⟨_,ha,_⟩:=qdx hp
   obtain⟨_,ta,ba,ka,_,rfl,_⟩:=qds ha
   refine⟨by simp[Tryz.f38], ?_⟩
   rw[xbci]
   exact(xbwe ta ba ka hp0).trans h
  ·cases hp)
theorem xb2q:TK xb0a:=fun hm=>tabC (K:=ofS qiz SRBytes) (que hm) (xbrv hm)
theorem xbdj (hm:MX):OKS 66 qop xbr1:=
 qb0 (E:=xbub) (N:=40) (keep:=false) hm (fun g=>(qah (que hm) qbz)) Tryz.func66 rfl rfl xbdb rfl (by
  intro xs obs out hq h
  have hp:qop xs obs=true:=hq
  have hp0:qop xs obs=true:=hq
  clear hq
  unfold qop at hp
  split at hp
  ·rename_i a
   try simp only[zab] at hp
   obtain⟨_,ha,_⟩:=qdx hp
   obtain⟨_,ta,ba,ka,_,rfl,_⟩:=qds ha
   refine⟨by simp[Tryz.f66], ?_⟩
   rw[xbi4]
   exact(xb4p ta ba ka hp0).trans h
  ·cases hp)
theorem xbvf:TK BSEq32:=fun hm=>tabC (K:=ofS qop xbr1) (xbdj hm) (xb2q hm)
theorem xb1p:TK BOSame:=tcT ESEq32 KSEq32 xbvf Tryz.func177 [(true,4)] ⟨⟨_,rfl,q8c⟩,trivial⟩ fun xs obs y h hp=>by
  unfold KSEq32 at h
  split at h<;>cases h
  exact tr (xb5n _ _ hp)
theorem xbzf:TK BOPut:=tc0 EOSame KOSame xb1p Tryz.func139 fun xs obs y h hp=>by
  unfold KOSame at h
  split at h<;>cases h
  exact tr (xb3y _ _ hp)
theorem xbi8 (hm:MX):OKc Tryz.prog qay 184 KOPut:=
 rs (E:=EOPut) (N:=40) (keep:=true) (xbzf hm) hm Tryz.func184 (lsB (ids:=[(false,2)]) (by kernel_rfl) ⟨⟨_,rfl,xbg8⟩,trivial⟩) fun xs obs y h hp=>by
  unfold KOPut at h
  split at h
  ·cases h;exact tr (xb2e _ hp)
  ·cases h;rename_i m n l;exact tr (xb16 m n l hp)
  ·cases h
theorem qzl:TK BR2Groups:=fun hm=>tabC (K:=KOPut) (xbi8 hm) (xbzf hm)
theorem q0o (hm:MX):OKc Tryz.prog qay 183 KR2Groups:=
 rs (E:=ER2Groups) (N:=40) (keep:=true) (qzl hm) hm Tryz.func183 (lsB (ids:=[(true,3)]) (by kernel_rfl) ⟨⟨_,rfl,qyz⟩,trivial⟩) fun xs obs y h hp=>by
  unfold KR2Groups at h
  split at h<;>cases h
  exact tr (xbj3 _ hp)
theorem xbpa:TK BOBytes:=fun hm=>tabC (K:=KR2Groups) (q0o hm) (qzl hm)
theorem xbj6:TK BR2Bytes:=tcT EOBytes KOBytes xbpa Tryz.func156 [(true,5)] ⟨⟨_,rfl,q2f⟩,trivial⟩ fun xs obs y h hp=>by
  unfold KOBytes at h
  split at h<;>cases h
  exact tr (xb0z _ hp)
theorem xbww:TK BVBNum:=tcT ER2Bytes KR2Bytes xbj6 Tryz.func154 [(true,5)] ⟨⟨_,rfl,q0t⟩,trivial⟩ fun xs obs y h hp=>by
  unfold KR2Bytes at h
  split at h<;>cases h
  exact tr (xbrq _ hp)
theorem xb7l:TK BVLe:=tcT EVBNum KVBNum xbww Tryz.func92 [(true,3)] ⟨⟨_,rfl,q8y⟩,trivial⟩ fun xs obs y h hp=>by
  unfold KVBNum at h
  split at h<;>cases h
  exact tr (xb3g _ hp)
theorem xbrl (hm:MX):OKc Tryz.prog qay 157 KVLe:=
 rs0 (E:=EVLe) (N:=40) (keep:=true) (xb7l hm) hm Tryz.func157 (by kernel_rfl) fun xs obs y h hp=>by
  unfold KVLe at h
  split at h<;>cases h
  exact tr (nVLe _ hp)
theorem xba0:TK BVReverse:=fun hm=>tabC (K:=KVLe) (xbrl hm) (xb7l hm)
theorem xb8d:TK BVBe:=tc0 EVReverse KVReverse xba0 Tryz.func158 fun xs obs y h hp=>by
  unfold KVReverse at h
  split at h<;>cases h
  exact tr (xbia _ hp)
theorem xbv8:TK BVR1Be:=tc0 EVBe KVBe xb8d Tryz.func120 fun xs obs y h hp=>by
  unfold KVBe at h
  split at h<;>cases h
  exact tr (nVBe _ hp)
theorem xb40:TK BVInt:=tc0 EVR1Be KVR1Be xbv8 Tryz.func114 fun xs obs y h hp=>by
  unfold KVR1Be at h
  split at h<;>cases h
  exact tr (xb4h _ hp)
theorem xb2m:TK BVRInt:=tcT EVInt KVInt xb40 Tryz.func71 [(true,2)] ⟨⟨_,rfl,xbew⟩,trivial⟩ fun xs obs y h hp=>by
  unfold KVInt at h
  split at h<;>cases h
  exact tr (xb85 _ hp)
theorem xbjt:TK BVNumber:=tcT EVRInt KVRInt xb2m Tryz.func65 [(true,2)] ⟨⟨_,rfl,q8l⟩,trivial⟩ fun xs obs y h hp=>by
  unfold KVRInt at h
  split at h<;>cases h
  exact tr (xb4i _ hp)
theorem xbrj:TK xbcr:=tc0 EVNumber KVNumber xbjt Tryz.func53 fun xs obs y h hp=>by
  unfold KVNumber at h
  split at h<;>cases h
  exact tr (xbqo _ hp)
theorem xbsn:TK xbay:=tc0 xbyf xbaj xbrj Tryz.func52 fun xs obs y h hp=>by
  unfold xbaj at h
  split at h<;>cases h
  exact tr (xbky _ _ _ hp)
theorem xbqf:TK xbgy:=tc0 xbzo xbda xbsn Tryz.func137 fun xs obs y h hp=>by
  unfold xbda at h
  split at h<;>cases h
  exact tr (xbxh _ _ _ hp)
theorem xbfc:TK qwq:=tc0 xbvd xbgx xbqf Tryz.func25 fun xs obs y h hp=>by
  unfold xbgx at h
  split at h<;>cases h
  exact tr (xbxv _ _ _ hp)
theorem xby0:TK xbo0:=tc0 xbj7 qy1 xbfc Tryz.func140 fun xs obs y h hp=>by
  unfold qy1 at h
  split at h<;>cases h
  exact tr (xbis _ _ _ hp)
theorem xb2k:TK BVMade:=tc0 xb34 xbpz xby0 Tryz.func93 fun xs obs y h hp=>by
  unfold xbpz at h
  split at h<;>cases h
  exact tr (xb3a _ _ _ hp)
theorem xb8z:TK BVId:=tc0 EVMade KVMade xb2k Tryz.func155 fun xs obs y h hp=>by
  unfold KVMade at h
  split at h<;>cases h
  exact tr (xb59 _ _ hp)
theorem xbq4:TK BVBytes:=tc0 EVId KVId xb8z Tryz.func118 fun xs obs y h hp=>by
  unfold KVId at h
  split at h<;>cases h
  exact tr (nVId _ hp)
theorem xbse:TK BVRMade:=tc0 EVBytes KVBytes xbq4 Tryz.func119 fun xs obs y h hp=>by
  unfold KVBytes at h
  split at h<;>cases h
  exact tr (xbx2 _ hp)
theorem xb5a:TK BVRId:=tc0 EVRMade KVRMade xbse Tryz.func153 fun xs obs y h hp=>by
  unfold KVRMade at h
  split at h<;>cases h
  exact tr (xbwb _ _ hp)
theorem xbiy:TK BVRBytes:=tc0 EVRId KVRId xb5a Tryz.func112 fun xs obs y h hp=>by
  unfold KVRId at h
  split at h<;>cases h
  exact tr (xb8a _ hp)
theorem xbqd:TK BVClone:=tc0 EVRBytes KVRBytes xbiy Tryz.func113 fun xs obs y h hp=>by
  unfold KVRBytes at h
  split at h<;>cases h
  exact tr (xbp6 _ hp)
theorem xb33:TK BVSeq:=tc0 EVClone KVClone xbqd Tryz.func51 fun xs obs y h hp=>by
  unfold KVClone at h
  split at h<;>cases h
  exact tr (xbyd _ hp)
theorem xb4g:TK BVBox:=tc0 EVSeq KVSeq xb33 Tryz.func70 fun xs obs y h hp=>by
  unfold KVSeq at h
  split at h<;>cases h
  exact tr (xb74 _ hp)
theorem xbyi:TK BVKids:=tc0 EVBox KVBox xb4g Tryz.func165 fun xs obs y h hp=>by
  unfold KVBox at h
  split at h<;>cases h
  exact tr (xb8c _ _ hp)
theorem xbv7:TK BVRSeq:=tc0 EVKids KVKids xbyi Tryz.func24 fun xs obs y h hp=>by
  unfold KVKids at h
  split at h<;>cases h
  exact tr (xb42 _ _ _ _ hp)
theorem xbve:TK BVRBox:=tc0 EVRSeq KVRSeq xbv7 Tryz.func64 fun xs obs y h hp=>by
  unfold KVRSeq at h
  split at h<;>cases h
  exact tr (xb3q _ hp)
theorem xb38:TK BAAll:=tc0 EVRBox KVRBox xbve Tryz.func130 fun xs obs y h hp=>by
  unfold KVRBox at h
  split at h<;>cases h
  exact tr (xb5m _ _ hp)
theorem q41:TK BAFound:=tc0 EAAll KAAll xb38 Tryz.func138 fun xs obs y h hp=>by
  unfold KAAll at h
  split at h<;>cases h
  exact tr (xb8f hp)
theorem xbc0 (hm:MX): ∀xs obs ys,q1z xs obs=true->q77 xs obs=some ys->xbxg Tryz.prog qay 175 xs obs ys:=by
 intro xs obs ys hp h
 unfold q77 at h
 split at h
 ·cases h
  have hE: ∀(l:Nat) (g:FuncId),Sound Tryz.prog (xbev l).glob g (ctr (xbev l) g):=fun l g=>(qah (q41 hm 176) qbz)
  refine q69 (N:=40) xbev hE hm (fun _=>rfl) (fun _=>rfl) (fun _=>rfl) Tryz.func175 rfl xbg2 (fun _=>rfl) (by decide) rfl fun l=> ?_
  obtain⟨out,h1,h2⟩:=xb6t l hp
  exact⟨out,(xbjv l).trans h1,h2⟩
 ·cases h
theorem xbqa (hm:MX):qer Tryz.prog EAFound:=by
 intro gf xs obs ys hp h
 have h:(cond (Nat.beq gf 175) q77 (fun _ _=>none)) xs obs=some ys:=h
 cases hb:Nat.beq gf 175 with
 | false=>rw[hb] at h;cases h
 | true=>
  obtain rfl:=qaf.1 hb
  exact⟨xbc0 hm xs obs ys hp h,_,Tryz.func175,rfl,rfl⟩
theorem q8j (hm:MX):OKS 116 qxh SAFound:=
 qb0 (E:=EAFound) (N:=40) (keep:=false) hm (fun g=>(qah (q41 hm 138) qs3)) Tryz.func116 rfl rfl q8g rfl (hsq:=xbqa hm) (hS:=by
  intro xs obs out hp h
  unfold SAFound at h
  split at h
  ·refine⟨by simp[Tryz.f116], ?_⟩
   rw[xbb7]
   exact(xb07 _ hp).trans h
  ·cases h)
theorem xbqr:TK BAGroup:=fun hm=>tabC (K:=ofS qxh SAFound) (q8j hm) (q41 hm)
theorem xb8r:TK BAId:=tc0 EAGroup KAGroup xbqr Tryz.func96 fun xs obs y h hp=>by
  unfold KAGroup at h
  split at h<;>cases h
  exact tr (xbwx _ hp)
theorem xb6w:TK BAOf:=tc0 EAId KAId xb8r Tryz.func164 fun xs obs y h hp=>by
  unfold KAId at h
  split at h<;>cases h
  exact tr (nAId _ hp)
theorem xb82 (hm:MX):qer Tryz.prog EAOf:=by
 intro gf xs obs ys hp h
 have h:(cond (Nat.beq gf 175) q77 (fun _ _=>none)) xs obs=some ys:=h
 cases hb:Nat.beq gf 175 with
 | false=>rw[hb] at h;cases h
 | true=>
  obtain rfl:=qaf.1 hb
  exact⟨xbc0 hm xs obs ys hp h,_,Tryz.func175,rfl,rfl⟩
theorem xbsr (hm:MX):OKS 94 xbtt SAOf:=
 qb0 (E:=EAOf) (N:=40) (keep:=false) hm (fun g=>(qah (xb6w hm 138) (qah (xb6w hm 139) qs3))) Tryz.func94 rfl rfl xbsm rfl (hsq:=xb82 hm) (hS:=by
  intro xs obs out hp h
  unfold SAOf at h
  split at h
  ·refine⟨by simp[Tryz.f94], ?_⟩
   rw[xbz9]
   exact(nAOf _ hp).trans h
  ·cases h)
theorem xbif:TK BARGroup:=fun hm=>tabC (K:=ofS xbtt SAOf) (xbsr hm) (xb6w hm)
theorem xbud:TK BARNist:=tcT EARGroup KARGroup xbif Tryz.func108 [(false,11),(false,7),(false,5),(false,3)] ⟨⟨_,rfl,qwi⟩,⟨_,rfl,q0w⟩,⟨_,rfl,q0y⟩,⟨_,rfl,q03⟩,trivial⟩ fun xs obs y h hp=>by
  unfold KARGroup at h
  split at h<;>cases h
  exact tr (xboo _ hp)
theorem xbpt:TK BARPkcs:=tc0 EARNist KARNist xbud Tryz.func151 fun xs obs y h hp=>by
  unfold KARNist at h
  split at h<;>cases h
  exact tr (xbzt _ _ hp)
theorem xb3p:TK BARId:=tc0 EARPkcs KARPkcs xbpt Tryz.func152 fun xs obs y h hp=>by
  unfold KARPkcs at h
  split at h<;>cases h
  exact tr (xbvx _ hp)
theorem xby9:TK BAUsed:=tc0 EARId KARId xb3p Tryz.func110 fun xs obs y h hp=>by
  unfold KARId at h
  split at h<;>cases h
  exact tr (xb8u _ hp)
theorem xbvs:TK BANode:=tc0 EAUsed KAUsed xby9 Tryz.func117 fun xs obs y h hp=>by
  unfold KAUsed at h
  split at h<;>cases h
  exact tr (xb6c _ hp)
theorem xbs9:TK BARNode:=tc0 EANode KANode xbvs Tryz.func69 fun xs obs y h hp=>by
  unfold KANode at h
  split at h<;>cases h
  exact tr (xb6r _ _ hp)
theorem xb02:TK BATail:=tc0 EARNode KARNode xbs9 Tryz.func63 fun xs obs y h hp=>by
  unfold KARNode at h
  split at h<;>cases h
  exact tr (xbzg _ _ hp)
theorem xb18:TK BARead:=tc0 EATail KATail xb02 Tryz.func95 fun xs obs y h hp=>by
  unfold KATail at h
  split at h<;>cases h
  exact tr (xb3j _ _ hp)
theorem xb2r:TK BMSize:=tc0 EARead KARead xb18 Tryz.func55 fun xs obs y h hp=>by
  unfold KARead at h
  split at h<;>cases h
  exact tr (xb5t _ _ _ hp)
theorem xbpn:TK BR9Size:=tc0 EMSize KMSize xb2r Tryz.func168 fun xs obs y h hp=>by
  unfold KMSize at h
  split at h<;>cases h
  exact tr (xb3w _ hp)
theorem xb6i:TK BFDig:=tc0 ER9Size KR9Size xbpn Tryz.func131 fun xs obs y h hp=>by
  unfold KR9Size at h
  split at h<;>cases h
  exact tr (xb1o _ hp)
theorem xb37:TK BEDig:=tc0 EFDig KFDig xb6i Tryz.func188 fun xs obs y h hp=>by
  unfold KFDig at h
  split at h<;>cases h
  exact tr (xb8h _ _ hp)
theorem xb0e:TK xbq8:=tcT EEDig KEDig xb37 Tryz.func194 [(true,5)] ⟨⟨_,rfl,xbdx⟩,trivial⟩ fun xs obs y h hp=>by
  unfold KEDig at h
  split at h<;>cases h
  exact tr (xb73 _ _ _ _ hp)
theorem xbwh:TK BFPart:=tc0 xb6x xbsf xb0e Tryz.func187 fun xs obs y h hp=>by
  unfold xbsf at h
  split at h<;>cases h
  exact tr (xb6l _ _ _ _ hp)
theorem xbm7:TK BEPart:=tc0 EFPart KFPart xbwh Tryz.func186 fun xs obs y h hp=>by
  unfold KFPart at h
  split at h<;>cases h
  exact tr (xb3t _ _ hp)
theorem xbaz (hm:MX):OKc Tryz.prog qay 167 KEPart:=
 rs0 (E:=EEPart) (N:=40) (keep:=true) (xbm7 hm) hm Tryz.func167 (by kernel_rfl) fun xs obs y h hp=>by
  unfold KEPart at h
  split at h<;>cases h
  exact tr (xb49 _ hp)
theorem xb5k:TK BEPar:=fun hm=>tabC (K:=KEPart) (xbaz hm) (xbm7 hm)
theorem xbrz:TK xbet:=tcT EEPar KEPar xb5k Tryz.func166 [(true,5)] ⟨⟨_,rfl,xbbs⟩,trivial⟩ fun xs obs y h hp=>by
  unfold KEPar at h
  split at h<;>cases h
  exact tr (xb7z _ _ _ _ hp)
theorem xb6a:TK BEMar:=tc0 xb2u xbff xbrz Tryz.func127 fun xs obs y h hp=>by
  unfold xbff at h
  split at h<;>cases h
  exact tr (xbwo _ _ _ hp)
theorem xb13:TK xbuf:=tcT EEMar KEMar xb6a Tryz.func163 [(true,5)] ⟨⟨_,rfl,xbef⟩,trivial⟩ fun xs obs y h hp=>by
  unfold KEMar at h
  split at h<;>cases h
  exact tr (xb8g _ _ _ hp)
theorem xbjs:TK q2c:=tc0 xb5c xbri xb13 Tryz.func126 fun xs obs y h hp=>by
  unfold xbri at h
  split at h<;>cases h
  exact tr (xb6m _ _ _ hp)
theorem xb6u:TK BECha:=tc0 xbso q4i xbjs Tryz.func76 fun xs obs y h hp=>by
  unfold q4i at h
  split at h<;>cases h
  exact tr (xbqy _ hp)
theorem xbvi:TK xbtz:=tcT EECha KECha xb6u Tryz.func125 [(true,5)] ⟨⟨_,rfl,xbbp⟩,trivial⟩ fun xs obs y h hp=>by
  unfold KECha at h
  split at h<;>cases h
  exact tr (xb8b _ _ _ hp)
theorem xbg9:TK qwk:=tc0 xb4x xbto xbvi Tryz.func75 fun xs obs y h hp=>by
  unfold xbto at h
  split at h<;>cases h
  exact tr (xb3k _ _ _ hp)
theorem xbtq:TK xbmp:=tc0 xbh8 qx5 xbg9 Tryz.func37 fun xs obs y h hp=>by
  unfold qx5 at h
  split at h<;>cases h
  exact tr (xbh3 _ hp)
theorem xbcj:TK qv9:=fun hm=>tabC (K:=ofS qqg xbds) (q9x hm) (xbtq hm)
theorem xbjl:TK q2l:=tcT qx9 qy3 xbcj Tryz.func40 [(true,3),(true,11)] ⟨⟨_,rfl,qyf⟩,⟨_,rfl,qt1⟩,trivial⟩ fun xs obs y h hp=>by
  unfold qy3 at h
  split at h<;>cases h
  exact tr (xbjp _ hp)
theorem xb0l:TK xbr8:=tcT xbb1 q4o xbjl Tryz.func80 [(true,2)] ⟨⟨_,rfl,qza⟩,trivial⟩ fun xs obs y h hp=>by
  unfold q4o at h
  split at h<;>cases h
  exact tr (xbt8 _ _ hp)
theorem xb4e:TK xb5z:=tc0 xb3z xbor xb0l Tryz.func41 fun xs obs y h hp=>by
  unfold xbor at h
  split at h<;>cases h
  exact tr (xb43 _ _ hp)
theorem xbt7:TK xbdd:=tcT xb69 xb6g xb4e Tryz.func42 [(true,4)] ⟨⟨_,rfl,xbch⟩,trivial⟩ fun xs obs y h hp=>by
  unfold xb6g at h
  split at h<;>cases h
  exact tr (xb8e _ _ hp)
theorem xbhg:TK BEDigests:=tcT xbmq xbd0 xbt7 Tryz.func32 [(true,4)] ⟨⟨_,rfl,q49⟩,trivial⟩ fun xs obs y h hp=>by
  unfold xbd0 at h
  split at h<;>cases h
  exact tr (xbxd _ _ hp)
theorem xbe7:TK BRDigests:=tcT EEDigests KEDigests xbhg Tryz.func21 [(true,3)] ⟨⟨_,rfl,qv7⟩,trivial⟩ fun xs obs y h hp=>by
  unfold KEDigests at h
  split at h<;>cases h
  exact tr (xbks _ hp)
theorem xbu9:TK xbpk:=tcT ERDigests KRDigests xbe7 Tryz.func17 [(true,10),(true,6),(true,3)] ⟨⟨_,rfl,qt4⟩,⟨_,rfl,qwj⟩,⟨_,rfl,qwt⟩,trivial⟩ fun xs obs y h hp=>by
  unfold KRDigests at h
  split at h<;>cases h
  exact tr (xbjz _ hp)
theorem xb35:TK BEAlg:=tc0 xb5x xbum xbu9 Tryz.func68 fun xs obs y h hp=>by
  unfold xbum at h
  split at h<;>cases h
  exact tr (xb4s _ hp)
theorem xb1h:TK xbp1:=tcT EEAlg KEAlg xb35 Tryz.func115 [(true,5)] ⟨⟨_,rfl,xbc1⟩,trivial⟩ fun xs obs y h hp=>by
  unfold KEAlg at h
  split at h<;>cases h
  exact tr (xb70 _ _ _ hp)
theorem xb3i:TK BERec:=tc0 xb3r xboh xb1h Tryz.func67 fun xs obs y h hp=>by
  unfold xboh at h
  split at h<;>cases h
  exact tr (xb3l _ _ _ hp)
theorem xbvn:TK BERFit:=tc0 EERec KERec xb3i Tryz.func35 fun xs obs y h hp=>by
  unfold KERec at h
  split at h<;>cases h
  exact tr (xb71 _ _ hp)
theorem xbkd:TK BERBytes:=tc0 EERFit KERFit xbvn Tryz.func15 fun xs obs y h hp=>by
  unfold KERFit at h
  split at h<;>cases h
  exact tr (xb5u _ _ hp)
theorem xbyj:TK BERSeq:=tc0 EERBytes KERBytes xbkd Tryz.func13 fun xs obs y h hp=>by
  unfold KERBytes at h
  split at h<;>cases h
  exact tr (xbun _ _ hp)
theorem xb0p:TK BRMark:=tc0 EERSeq KERSeq xbyj Tryz.func18 fun xs obs y h hp=>by
  unfold KERSeq at h
  split at h<;>cases h
  exact tr (xb4t _ _ _ hp)
theorem xbio:TK BRChains:=tcT ERMark KRMark xb0p Tryz.func78 [(true,14),(true,8)] ⟨⟨_,rfl,q4z⟩,⟨_,rfl,q8b⟩,trivial⟩ fun xs obs y h hp=>by
  unfold KRMark at h
  split at h<;>cases h
  exact tr (xb5b _ _ _ hp)
theorem xb28:TK BRRec:=tcT ERChains KRChains xbio Tryz.func39 [(true,11),(true,5)] ⟨⟨_,rfl,qwh⟩,⟨_,rfl,qy9⟩,trivial⟩ fun xs obs y h hp=>by
  unfold KRChains at h
  split at h<;>cases h
  exact tr (xbut _ hp)
theorem xb1x:TK BRRFit:=tcT ERRec KRRec xb28 Tryz.func34 [(true,6)] ⟨⟨_,rfl,xbd8⟩,trivial⟩ fun xs obs y h hp=>by
  unfold KRRec at h
  split at h<;>cases h
  exact tr (xb8q _ _ hp)
theorem xbhr:TK BRRBytes:=tc0 ERRFit KRRFit xb1x Tryz.func12 fun xs obs y h hp=>by
  unfold KRRFit at h
  split at h<;>cases h
  exact tr (xb3f _ _ hp)
theorem xb2j:TK BRRSeq:=tc0 ERRBytes KRRBytes xbhr Tryz.func19 fun xs obs y h hp=>by
  unfold KRRBytes at h
  split at h<;>cases h
  exact tr (xbt3 _ _ hp)
theorem xbpb:TK xbc9:=tc0 ERRSeq KRRSeq xb2j Tryz.func20 fun xs obs y h hp=>by
  unfold KRRSeq at h
  split at h<;>cases h
  exact tr (xb41 _ _ _ hp)
theorem xb10:TK xbqb:=tc0 xbym xbcb xbpb Tryz.func143 fun xs obs y h hp=>by
  unfold xbcb at h
  split at h<;>cases h
  exact tr (xbyh _ _ _ hp)
theorem xbw4:TK xbqj:=tcT xbxz xbti xb10 Tryz.func178 [(true,5)] ⟨⟨_,rfl,q93⟩,trivial⟩ fun xs obs y h hp=>by
  unfold xbti at h
  split at h<;>cases h
  exact tr (xb5q _ _ _ hp)
theorem xbkn:TK q3r:=tc0 xb5l xbs4 xbw4 Tryz.func142 fun xs obs y h hp=>by
  unfold xbs4 at h
  split at h<;>cases h
  exact tr (xb5g _ _ _ _ hp)
theorem xbxy:TK xbrt:=tc0 xbp9 q44 xbkn Tryz.func99 fun xs obs y h hp=>by
  unfold q44 at h
  split at h<;>cases h
  exact tr (xboj _ _ _ hp)
theorem xbxa:TK xbug:=tcT xbzr xbqx xbxy Tryz.func141 [(true,5)] ⟨⟨_,rfl,q71⟩,trivial⟩ fun xs obs y h hp=>by
  unfold xbqx at h
  split at h<;>cases h
  exact tr (xb4c _ _ _ hp)
theorem xbjd:TK q3j:=tc0 xb6v xbsg xbxa Tryz.func98 fun xs obs y h hp=>by
  unfold xbsg at h
  split at h<;>cases h
  exact tr (xb32 _ _ _ _ hp)
theorem xbjh:TK q2u:=tc0 xbsz q2z xbjd Tryz.func100 fun xs obs y h hp=>by
  unfold q2z at h
  split at h<;>cases h
  exact tr (xbui _ _ _ hp)
theorem xb04:TK xbqz:=tc0 xbqp q3q xbjh Tryz.func58 fun xs obs y h hp=>by
  unfold q3q at h
  split at h<;>cases h
  exact tr (xbo3 _ _ _ hp)
theorem xbwr:TK xbpf:=tcT xb2c xbs6 xb04 Tryz.func97 [(true,5)] ⟨⟨_,rfl,q8i⟩,trivial⟩ fun xs obs y h hp=>by
  unfold xbs6 at h
  split at h<;>cases h
  exact tr (xb5i _ _ _ hp)
theorem xbe8:TK qwu:=tc0 xb6n xbsp xbwr Tryz.func57 fun xs obs y h hp=>by
  unfold xbsp at h
  split at h<;>cases h
  exact tr (xb6e _ _ _ _ hp)
theorem xbwl:TK xboy:=tc0 xbhx qww xbe8 Tryz.func29 fun xs obs y h hp=>by
  unfold qww at h
  split at h<;>cases h
  exact tr (xbh7 _ _ _ hp)
theorem xbvt:TK xbp0:=tcT xbvy xbpd xbwl Tryz.func56 [(true,5)] ⟨⟨_,rfl,q80⟩,trivial⟩ fun xs obs y h hp=>by
  unfold xbpd at h
  split at h<;>cases h
  exact tr (xb5h _ _ _ hp)
theorem xbom:TK xbbq:=tc0 xb4b xbqu xbvt Tryz.func28 fun xs obs y h hp=>by
  unfold xbqu at h
  split at h<;>cases h
  exact tr (xb3m _ _ _ _ hp)
theorem xbzj:TK xbr3:=tc0 xb1y xbgo xbom Tryz.func27 fun xs obs y h hp=>by
  unfold xbgo at h
  split at h<;>cases h
  exact tr (xbu6 _ _ _ hp)
theorem xbxc:TK xbur:=tcT xb0i xbus xbzj Tryz.func54 [(true,5)] ⟨⟨_,rfl,q83⟩,trivial⟩ fun xs obs y h hp=>by
  unfold xbus at h
  split at h<;>cases h
  exact tr (xb47 _ _ _ hp)
theorem xbow:TK BEParse:=tc0 xb53 xbth xbxc Tryz.func26 fun xs obs y h hp=>by
  unfold xbth at h
  split at h<;>cases h
  exact tr (xb55 _ _ _ _ hp)
theorem xbok:TK BFSame3:=tc0 EEParse KEParse xbow Tryz.func8 fun xs obs y h hp=>by
  unfold KEParse at h
  split at h<;>cases h
  exact tr (xb0r _ hp)
theorem xbr2:TK xbhe:=tc0 EFSame3 KFSame3 xbok Tryz.func83 fun xs obs y h hp=>by
  unfold KFSame3 at h
  split at h<;>cases h
  exact tr (xb12 _ _ hp)
theorem xbrr:TK BFSame2:=tcT xblc xbdz xbr2 Tryz.func82 [(true,4)] ⟨⟨_,rfl,q4k⟩,trivial⟩ fun xs obs y h hp=>by
  unfold xbdz at h
  split at h<;>cases h
  exact tr (xbza _ _ hp)
theorem xbop:TK xbam:=tc0 EFSame2 KFSame2 xbrr Tryz.func81 fun xs obs y h hp=>by
  unfold KFSame2 at h
  split at h<;>cases h
  exact tr (xby5 _ _ hp)
theorem xbix:TK q2e:=tcT xbld xben xbop Tryz.func85 [(true,4)] ⟨⟨_,rfl,q1w⟩,trivial⟩ fun xs obs y h hp=>by
  unfold xben at h
  split at h<;>cases h
  exact tr (xb2t _ _ hp)
theorem xbim:TK q1p:=tc0 xbpx q2m xbix Tryz.func46 fun xs obs y h hp=>by
  unfold q2m at h
  split at h<;>cases h
  exact tr (xbo6 _ _ _ _ _ _ hp)
theorem xbt6:TK BFSame1:=tcT xbe6 q3s xbim Tryz.func45 [(true,4)] ⟨⟨_,rfl,qy8⟩,trivial⟩ fun xs obs y h hp=>by
  unfold q3s at h
  split at h<;>cases h
  exact tr (xbuk _ _ hp)
theorem xbg5:TK qx8:=tc0 EFSame1 KFSame1 xbt6 Tryz.func44 fun xs obs y h hp=>by
  unfold KFSame1 at h
  split at h<;>cases h
  exact tr (xbwd _ _ hp)
theorem xbxk:TK BESame:=tcT q7e qw3 xbg5 Tryz.func43 [(true,4)] ⟨⟨_,rfl,qw0⟩,trivial⟩ fun xs obs y h hp=>by
  unfold qw3 at h
  split at h<;>cases h
  exact tr (xbj2 _ _ hp)
theorem xbtu:TK BR4Same:=tc0 EESame KESame xbxk Tryz.func22 fun xs obs y h hp=>by
  unfold KESame at h
  split at h<;>cases h
  exact tr (xb48 _ _ _ _ hp)
theorem xbh1:TK BR38Same:=tcT ER4Same KR4Same xbtu Tryz.func62 [(true,4)] ⟨⟨_,rfl,q37⟩,trivial⟩ fun xs obs y h hp=>by
  unfold KR4Same at h
  split at h<;>cases h
  exact tr (xbya _ _ hp)
theorem xbsy:TK BRESame:=tcT ER38Same KR38Same xbh1 Tryz.func33 [(true,4)] ⟨⟨_,rfl,q0n⟩,trivial⟩ fun xs obs y h hp=>by
  unfold KR38Same at h
  split at h<;>cases h
  exact tr (xbqi _ _ hp)
theorem xbi6:TK BRESmall:=tcT ERESame KRESame xbsy Tryz.func10 [(true,9),(true,4)] ⟨⟨_,rfl,q39⟩,⟨_,rfl,q2p⟩,trivial⟩ fun xs obs y h hp=>by
  unfold KRESame at h
  split at h<;>cases h
  exact tr (xbuz _ _ _ _ hp)
theorem xbss:TK BWSmall:=tcT ERESmall KRESmall xbi6 Tryz.func16 [(true,16),(true,12),(true,7),(true,3)] ⟨⟨_,rfl,qwv⟩,⟨_,rfl,qvu⟩,⟨_,rfl,q07⟩,⟨_,rfl,qzr⟩,trivial⟩ fun xs obs y h hp=>by
  unfold KRESmall at h
  split at h<;>cases h
  exact tr (xbtf _ _ _ hp)
theorem xbrs:TK BWAwake:=tcT EWSmall KWSmall xbss Tryz.func11 [(true,2)] ⟨⟨_,rfl,q45⟩,trivial⟩ fun xs obs y h hp=>by
  unfold KWSmall at h
  split at h<;>cases h
  exact tr (xbuy _ _ hp)
theorem qe5:TK BWTells:=tc0 EWAwake KWAwake xbrs Tryz.func7 fun xs obs y h hp=>by
  unfold KWAwake at h
  split at h<;>cases h
  exact tr (xbvr hp)
theorem q9y (hm:MX):OKS 6 qwl SWTells:=
 qb0 (E:=EWTells) (N:=40) (keep:=false) hm (fun g=>(qah (qe5 hm 7) (qah (qe5 hm 10) (qah (qe5 hm 11) (qah (qe5 hm 12) (qah (qe5 hm 13) (qah (qe5 hm 14) (qah (qe5 hm 15) (qah (qe5 hm 17) (qah (qe5 hm 18) (qah (qe5 hm 19) (qah (qe5 hm 20) (qah (qe5 hm 21) (qah (qe5 hm 22) qbz)))))))))))))) Tryz.func6 rfl rfl q8t rfl (by
  intro xs obs out hp h
  unfold SWTells at h
  split at h
  ·refine⟨by simp[Tryz.f6], ?_⟩
   rw[xba2]
   exact(xb0y _ _ _ _ _ hp).trans h
  ·cases h)
end Go.Proofs.YtoaakappnhemiaaGreatDoorA
