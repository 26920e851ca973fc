/-
 An abstract reader of the model's code, in values that are data: definitions alone. Conditions: none.
-/
import Derived.Calls
import Derived.Laws.World
import Derived.Laws.Entries
import Derived.Laws.StructEq
import Derived.Laws.Cells
set_option linter.unusedVariables false
set_option linter.unusedSimpArgs false
set_option maxRecDepth 100000
namespace Go.Proofs.YtoiikagnjcjccaaGreatDoorA
abbrev zaa:=@Option.some.injEq
abbrev zab:=@Bool.and_eq_true
abbrev zac:=@List.mem_of_getElem?
abbrev zad:=@List.getElem?_eq_some_iff
abbrev zae:=@List.getElem?_eq_getElem
abbrev zaf:=@List.length_cons
abbrev zag:=@Option.bind_some
abbrev zah:=@List.length_append
abbrev zai:=@List.all_eq_true
abbrev zaj:=@List.getElem?_map
abbrev zak:=@List.mem_append
abbrev zal:=@List.eq_nil_of_length_eq_zero
abbrev zam:=@List.length_map
abbrev zan:=@Bool.false_eq_true
abbrev zao:=@Bool.not_eq_true'
abbrev zap:=@Option.map_some
abbrev zaq:=@Option.map_eq_some_iff
abbrev zar:=@Nat.le_refl
abbrev zas:=@List.mem_cons
abbrev zat:=@List.length_drop
abbrev zau:=@Bool.eq_false_iff
abbrev zav:=@List.getElem?_append_right
abbrev zaw:=@List.mem_cons_of_mem
abbrev zax:=@List.getElem?_append_left
abbrev zay:=@List.getElem?_eq_none
abbrev zaz:=@Array.getD_eq_getD_getElem?
abbrev za0:=@List.nil_append
abbrev za1:=@Nat.zero_add
abbrev za2:=@List.drop_eq_nil_of_le
abbrev za3:=@List.getElem?_cons_succ
abbrev za4:=@List.getElem?_cons_zero
abbrev za5:=@List.flatMap_cons
abbrev za6:=@List.append_assoc
abbrev za7:=@List.mem_map
abbrev za8:=@List.cons_append
abbrev za9:=@List.append_nil
abbrev zba:=@List.mem_of_mem_take
abbrev zbb:=@Prod.mk.injEq
abbrev zbc:=@List.cons.injEq
abbrev zbd:=@Bool.eq_iff_iff
abbrev zbe:=@Array.getElem?_eq_getElem
abbrev zbf:=@List.drop_eq_getElem_cons
abbrev zbg:=@Nat.lt_of_lt_of_le
abbrev zbh:=@Nat.or_lt_two_pow
abbrev zbi:=@List.mem_of_mem_drop
abbrev zbj:=@List.mem_cons_self
abbrev zbk:=@Nat.beq_refl
abbrev zbl:=@List.getD_eq_getElem?_getD
abbrev zbm:=@List.getElem?_take_of_lt
abbrev zbn:=@Option.isSome_iff_exists
abbrev zbo:=@Nat.lt_or_ge
abbrev zbp:=@List.length_take
abbrev zbq:=@Nat.add_assoc
abbrev zbr:=@List.map_cons
abbrev zbs:=@List.take_of_length_le
abbrev zbt:=@List.length_nil
abbrev zbu:=@List.length_singleton
abbrev zbv:=@List.getElem?_drop
abbrev zbw:=@List.drop_zero
abbrev zbx:=@List.map_congr_left
abbrev zby:=@Nat.le_trans
abbrev zbz:=@Bool.or_eq_true
abbrev zb0:=@Array.getElem?_setIfInBounds
abbrev zb1:=@List.mem_iff_getElem?
abbrev zb2:=@List.mem_range
abbrev zb3:=@Int.fdiv_eq_ediv_of_nonneg
abbrev zb4:=@List.take_length
abbrev zb5:=@Nat.le_of_ble_eq_true
abbrev zb6:=@List.headD_cons
abbrev zb7:=@List.mem_flatMap
abbrev zb8:=@Bool.false_ne_true
abbrev zb9:=@Nat.blt_eq
abbrev zca:=@Int.tdiv_eq_ediv_of_nonneg
abbrev zcb:=@Int.tmod_eq_emod_of_nonneg
abbrev zcc:=@Nat.zero_le
abbrev zcd:=@List.length_eq_zero_iff
abbrev zce:=@Nat.mul_le_mul_right
abbrev zcf:=@Bool.true_and
abbrev zcg:=@List.map_map
abbrev zch:=@List.getElem_mem
abbrev zci:=@List.mem_singleton
abbrev zcj:=@List.tail_cons
abbrev zck:=@List.sum_cons
abbrev zcl:=@List.getElem?_range
abbrev zcm:=@Bool.or_eq_false_iff
abbrev zcn:=@Array.getElem?_append_left
abbrev zco:=@Array.getElem?_eq_some_iff
abbrev zcp:=@Array.getElem?_eq_none
abbrev zcq:=@Array.getElem?_toList
abbrev zcr:=@Nat.ble_eq_true_of_le
abbrev zcs:=@Bool.cond_decide
abbrev zct:=@Bool.not_true
abbrev zcu:=@Nat.succ_mul
abbrev zcv:=@Nat.sub_zero
abbrev zcw:=@Array.ext'
abbrev zcx:=@List.map_drop
abbrev zcy:=@List.getElem?_take
abbrev zcz:=@List.nodup_cons
abbrev zc0:=@Option.some.inj
abbrev zc1:=@List.filterMap_cons_some
abbrev zc2:=@Nat.zero_mul
abbrev zc3:=@List.map_take
abbrev zc4:=@List.all_cons
abbrev zc5:=@Int.toNat_of_nonneg
abbrev zc6:=@ByteArray.size_extract
abbrev zc7:=@BitVec.toNat_ofInt
abbrev zc8:=@List.foldl_cons
abbrev zc9:=@Nat.pow_le_pow_right
abbrev zda:=@List.any_eq_true
abbrev zdb:=@List.mem_nil_iff
abbrev zdc:=@Nat.add_mul
abbrev zdd:=@Nat.pos_of_ne_zero
abbrev zde:=@UInt8.toNat_ofNat'
abbrev zdf:=@Nat.succ_le_of_lt
abbrev zdg:=@Nat.lt_trichotomy
abbrev zdh:=@Function.comp_def
abbrev zdi:=@List.flatten_cons
abbrev zdj:=@List.drop_length
abbrev zdk:=@Array.getElem?_push
abbrev zdl:=@Array.size_push
abbrev zdm:=@List.drop_succ_cons
abbrev zdn:=@List.take_succ_cons
abbrev zdo:=@List.mem_filter
abbrev zdp:=@Nat.mod_lt
abbrev zdq:=@Array.size_append
abbrev zdr:=@Nat.mul_one
abbrev zds:=@Eq.trans
abbrev zdt:=@Nat.not_lt
inductive CV where
 | int (k:IntKind) (n:Int)
 | bool (b:Bool)
 | str (s:ByteArray)
 | sli (k:IntKind) (l:List Int)
 | slg (e:Nat) (l:List CV)
 | agg (l:List CV)
 | aggi (n:Nat) (k:IntKind) (l:List Int)
 | agga (n e:Nat) (l:List CV)
 | iface (t:TypeId) (c:CV)
 | nili|nilp|nilfn
 | fn (f:Fn) (first cap:List CV)
 | vp (r:CV) (i o:Nat)
 | any (p:Nat)
 | is (c:CV) (v:Value)
inductive V where
 | undef
 | cl (c:CV)
 | nils
 | agg (l:List V)
 | tup (l:List V)
 | iface (t:TypeId) (v:V)
 | fn (f:Fn) (first cap:List V)
 | ptr (p i o:Nat)
 | aptr (p n e:Nat)
 | ref (p o len:Nat) (tip:Bool) (e:Nat)
inductive Rw where
 | ints (k:IntKind) (l:List Int)
 | gen (e:Nat) (l:List CV)
 | arri (n:Nat) (k:IntKind) (l:List Int)
 | arrg (n e:Nat) (l:List CV)
 | var (l:List V)
structure Obj where
 row:Rw
 lock:Bool
inductive Out where
 | ret (vs:List V) (objs:List (Option Obj))
 | pan (c:CV) (objs:List (Option Obj))
 | yld (x:List CV) (f t:Out)
abbrev FSpec:=List V->List Obj->Option Out
def qaj{α:Type}:List (Nat×α)->Nat->Option α
 | [],_=>none
 | (k,v)::r,n=>cond (Nat.beq k n) (some v) (qaj r n)
def qct{α:Type}:List (Nat×α)->Nat->α->List (Nat×α)
 | [],n,v=>[(n,v)]
 | (k,u)::r,n,v=>cond (Nat.beq k n) ((n,v)::r) (cond (Nat.blt n k) ((n,v)::(k,u)::r) ((k,u)::qct r n v))
def qw9{α:Type}:List (Nat×α)->Nat->List (Nat×α)
 | [],_=>[]
 | (k,u)::r,n=>cond (Nat.beq k n) (qw9 r n) ((k,u)::qw9 r n)
structure St where
 slots:List (Nat×V)
 heap:List (Nat×Obj)
abbrev Heap:=List (Nat×Obj)
abbrev Upd:=List (Nat×Option Obj)
noncomputable def shut{α:Type}(a:α):α:=Classical.choose (⟨a,rfl⟩: ∃x,x=a)
theorem qab{α:Type}(a:α):shut a=a:=Classical.choose_spec (⟨a,rfl⟩: ∃x,x=a)
def getV(s:List (Nat×V))(t:Nat):V:=match qaj s t with|some v=>v|none=>.undef
def updH:Heap->Upd->Heap
 | H,[]=>H
 | H,(p,some ob)::r=>updH (qct H p ob) r
 | H,(p,none)::r=>updH (qw9 H p) r
def qdu:List V->Option (List CV)
 | []=>some []
 | .cl c::r=>match qdu r with|some l=>some (c::l)|none=>none
 | _::_=>none
def mkAgg(l:List V):V:=match qdu l with|some cs=>.cl (.agg cs)|none=>.agg l
def qxa(k:IntKind):List V->Option (List Int)
 | []=>some []
 | .cl (.int ka n)::r=>match decide (ka=k),qxa k r with|true,some l=>some (n::l)|_,_=>none
 | _::_=>none
def cell1:CV->List CV
 | .agg l=>l
 | .aggi _ k l=>l.map (.int k)
 | c=>[c]
def qxh:CV->List CV
 | .agg l=>l
 | .aggi _ k l=>l.map (.int k)
 | .agga _ _ l=>l.flatMap cell1
 | c=>[c]
def qd7:V->List V
 | .agg l=>l
 | .cl c=>(qxh c).map .cl
 | v=>[v]
def okV:V->Bool
 | .undef|.tup _=>false
 | _=>true
def qnv:Value->V
 | .int k n=>.cl (.int k n)
 | .bool b=>.cl (.bool b)
 | .string s=>.cl (.str s)
 | .slice none 0 0=>.nils
 | .pointer none=>.cl .nilp
 | .nilIface=>.cl .nili
 | .nilFunc=>.cl .nilfn
 | _=>.undef
inductive Kd where
 | int (k:IntKind)
 | slice (e:TypeId)
 | struct (fs:Array Field)
 | arr (n:Nat) (e:TypeId)
 | str
 | one
 | bad
def kd(P:Program)(t:TypeId):Kd:=
 match P.underlying t with
 | some (.int k)=>.int k
 | some .string=>.str
 | some (.slice e)=>.slice e
 | some (.struct fs)=>.struct fs
 | some (.array n e)=>.arr n e
 | some .bool|some (.pointer _)|some (.interface _)|some (.func ..)=>.one
 | _=>.bad
def qaq(P:Program)(t:TypeId):Nat:=match P.info? t with|some i=>i.size|none=>0
def qr7(P:Program)(t:TypeId):Nat:=match P.info? t with|some i=>i.bytes|none=>0
def qv1(P:Program)(t:TypeId)(l:List V):Option V:=
 match kd P t with
 | .struct _=>cond (Nat.beq l.length (qaq P t)) (some (mkAgg l)) none
 | .arr n e=>match kd P e with
  | .int k=>match qxa k l with|some ns=>cond (Nat.beq l.length n&&Nat.beq l.length (qaq P t)) (some (.cl (.aggi n k ns))) none|none=>none
  | _=>none
 | .bad=>none
 | _=>match l with|[v]=>some v|_=>none
def oneC:Value->Bool
 | .agg _|.tuple _=>false
 | _=>true
def xbfj:Kd->Bool
 | .struct _|.arr _ _=>true
 | _=>false
def q7t(P:Program)(t:TypeId):Option V:=
 match P.info? t with
 | some i=>match i.zero with
  | some (.agg cs)=>cond (xbfj (kd P t)&&cs.toList.all oneC) (qv1 P t (cs.toList.map qnv)) none
  | some v=>some (qnv v)
  | none=>none
 | none=>none
def xbnc(P:Program)(e:TypeId):Rw:=match kd P e with|.int k=>.ints k []|_=>.gen (qaq P e) []
def xbjc(P:Program):Nat->TypeId->List TypeId
 | 0,t=>[t]
 | n+1,t=>match kd P t with
  | .struct fs=>fs.toList.flatMap fun f=>xbjc P n f.type
  | .arr m e=>(List.replicate m (xbjc P n e)).flatten
  | _=>[t]
def concr(P:Program)(t:TypeId):Bool:=match P.underlying t with|some (.interface _)|none=>false|some _=>true
def known(P:Program)(t:TypeId):Bool:=(P.underlying t).isSome
def win{α:Type}(l:List α)(o len:Nat)(tip:Bool):List α:=
 cond tip (match o with|0=>l|o+1=>l.drop (o+1)) (match o with|0=>l.take len|o+1=>(l.drop (o+1)).take len)
def Rw.window:Rw->(o len:Nat)->(tip:Bool)->Option Rw
 | .ints k l,o,len,tip=>some (.ints k (win l o len tip))
 | .arri _ k l,o,len,tip=>some (.ints k (win l o len tip))
 | .gen e l,o,len,tip=>some (.gen e (win l o len tip))
 | .arrg _ e l,o,len,tip=>some (.gen e (win l o len tip))
 | .var _,_,_,_=>none
def Rw.cv:Rw->Option CV
 | .ints k l=>some (.sli k l)
 | .gen e l=>some (.slg e l)
 | _=>none
def Rw.len:Rw->Nat
 | .ints _ l=>l.length
 | .gen _ l=>l.length
 | .arri n _ _=>n
 | .arrg n _ _=>n
 | .var _=>1
def Rw.esz:Rw->Nat
 | .ints _ _=>1
 | .gen e _=>e
 | .arri _ _ _=>1
 | .arrg _ e _=>e
 | .var l=>l.length
def bytesOf(s:ByteArray):List Int:=s.data.toList.map fun b=>(b.toNat:Int)
def xbeo(l:List Int):ByteArray:=⟨(l.map fun n=>UInt8.ofNat n.toNat).toArray⟩
def bget(s:ByteArray)(n:Int):Int:=((s.data.toList[n.toNat]?).getD 0).toNat
def qkc(f:V->Option CV):List V->Option (List CV)
 | []=>some []
 | v::r=>match f v with|some c=>(match qkc f r with|some l=>some (c::l)|none=>none)|none=>none
def qor(f:TypeId->V->Option CV):List TypeId->List V->Option (List CV)
 | _,[]=>some []
 | [],_::_=>none
 | t::ts,v::r=>match f t v with|some c=>(match qor f ts r with|some l=>some (c::l)|none=>none)|none=>none
def qbp(P:Program)(H:Heap):Nat->TypeId->V->Option CV
 | _,_,.cl c=>some c
 | _,t,.nils=>match kd P t with
  | .slice e=>(xbnc P e).cv
  | _=>none
 | n+1,t,.agg l=>match qor (qbp P H n) (xbjc P 8 t) l with|some cs=>some (.agg cs)|none=>none
 | n+1,_,.ref p o len tip _=>match qaj H p with
  | some ob=>match ob.row.window o len tip with|some r=>r.cv|none=>none
  | none=>none
 | n+1,_,.ptr p i o=>match qaj H p with
  | some ob=>match ob.row with
   | .ints k l=>some (.vp (.sli k l) i o)
   | .gen e l=>some (.vp (.slg e l) i o)
   | .arri m k l=>some (.vp (.aggi m k l) i o)
   | .arrg m e l=>some (.vp (.agga m e l) i o)
   | .var l=>match qkc (qbp P H n 0) l with|some cs=>some (.vp (.agg cs) i o)|none=>none
  | none=>none
 | n+1,_,.aptr p _ _=>match qaj H p with
  | some ob=>match ob.row with
   | .arri m k l=>some (.vp (.aggi m k l) 0 0)
   | .arrg m e l=>some (.vp (.agga m e l) 0 0)
   | _=>none
  | none=>none
 | n+1,_,.iface t v=>match qbp P H n t v with|some c=>some (.iface t c)|none=>none
 | n+1,_,.fn f first cap=>match qkc (qbp P H n 0) first,qkc (qbp P H n 0) cap with|some a,some b=>some (.fn f a b)|_,_=>none
 | _,_,_=>none
def reach(H:Heap):Nat->V->List Nat
 | _+1,.ref p _ _ _ _=>[p]
 | _+1,.aptr p _ _=>[p]
 | n+1,.ptr p _ _=>p::(match qaj H p with|some ⟨.var l,_⟩=>l.flatMap (reach H n)|_=>[])
 | n+1,.agg l=>l.flatMap (reach H n)
 | n+1,.tup l=>l.flatMap (reach H n)
 | n+1,.iface _ v=>reach H n v
 | n+1,.fn _ a b=>a.flatMap (reach H n)++b.flatMap (reach H n)
 | _,_=>[]
def lockAll(H:Heap):List Nat->Upd
 | []=>[]
 | p::r=>match qaj H p with|some ob=>(p,some {ob with lock:=true})::lockAll H r|none=>lockAll H r
def q9i:CV->Bool
 | .int _ _|.bool _|.str _|.aggi _ _ _|.nili|.nilp|.nilfn=>true
 | .iface _ c=>q9i c
 | .agg l=>flatL l
 | _=>false
  where flatL:List CV->Bool
 | []=>true
 | c::r=>q9i c&&flatL r
def xblr:V->Bool
 | .cl c=>q9i c
 | _=>false
noncomputable def xbu2:Option Obj->Option Obj
 | some ⟨.ints k l,b⟩=>some ⟨.ints k (shut l),b⟩
 | o=>o
noncomputable def hide(b:Bool)(u:Upd):Upd:=cond b (u.map fun p=>(p.1,xbu2 p.2)) u
theorem xbl2(o:Option Obj):xbu2 o=o:=by
 unfold xbu2;split
 ·rw[qab]
 ·rfl
theorem xbiv(b:Bool)(u:Upd):hide b u=u:=by
 cases b with
 | false=>rfl
 | true=>show u.map (fun p=>(p.1,xbu2 p.2))=u;simp only[xbl2];exact List.map_id' u
inductive Ex where
 | normal
 | exit (id:Nat)
 | ret
 | pan (c:CV)
inductive Tree where
 | leaf (o:Out)
 | ite (b:Bool) (t e:Tree)
 | fail
def Tree.eval:Tree->Option Out
 | .leaf o=>some o
 | .ite b t e=>cond b t.eval e.eval
 | .fail=>none
def xbuo{β:Type}(k:Out->Option β):Tree->Option β
 | .leaf o=>k o
 | .ite b t e=>cond b (xbuo k t) (xbuo k e)
 | .fail=>none
theorem qjb{β:Type}{k:Out->Option β}{r:β}: ∀ {t:Tree},xbuo k t=some r->∃o,t.eval=some o/\k o=some r/\∀ {γ:Type} (k':Out->Option γ),xbuo k' t=k' o
 | .leaf o,h=>⟨o,rfl,h,fun k'=>rfl⟩
 | .ite b t e,h=>by
  cases b with
  | true=>
   obtain⟨o,h1,h2,h3⟩:=qjb (t:=t) h;exact⟨o,h1,h2,fun k'=>h3 k'⟩
  | false=>
   obtain⟨o,h1,h2,h3⟩:=qjb (t:=e) h;exact⟨o,h1,h2,fun k'=>h3 k'⟩
 | .fail,h=>by cases h
structure Env where
 orc:FuncId->List V->List Obj->Tree
 byref:FuncId->List Nat:=fun _=>[]
 keep:FuncId->Bool:=fun _=>false
 live:Nat->List Nat:=fun _=>[]
 ren:Nat->List (Nat×Nat):=fun _=>[]
 vir:Nat->List (Nat×Nat×Nat×Rw):=fun _=>[]
 glob:Nat->Option CV
 nt:Nat
 pre:FuncId->List V->List Obj->Bool:=fun _ _ _=>true
 spl:FuncId->Option Nat:=fun _=>none
 lp:Nat->Option (St->(Ex->St->Option Out)->Option Out):=fun _=>none
 lowr:Nat->List (Nat×Nat):=fun _=>[]
 sq:FuncId->List V->List Obj->Option (List (List CV)):=fun _ _ _=>none
 rf:Nat->Option (St->List (List CV)->(Ex->St->Option Out)->Option Out):=fun _=>none
 rg:Bool:=true
 yl:Nat->Option Nat:=fun _=>none
 yn:Nat:=0
 dc:Nat->Bool:=fun _=>false
 jn:Nat->Option (St->(Ex->St->Option Out)->Option Out):=fun _=>none
 sr:Nat->Bool:=fun _=>false
 xl:Nat->Option (List Nat):=fun _=>none
 ak:Nat->Bool:=fun _=>false
section
variable (P:Program) (E:Env) {β:Type}
def opd(s:List (Nat×V)):Operand->V
 | .tmp t=>getV s t
 | .const v=>qnv v
 | .func f=>.cl (.fn (.func f) [] [])
 | .global g=>match E.glob g with|some c=>.cl (.vp c 0 0)|none=>.undef
def LIM:Int:=140737488355328
def LIMN:Nat:=140737488355328
def idxK(n:Int)(len:Nat)(k:Nat->Option β):Option β:=
 cond (decide (0<=n)) (cond (decide (n<(len:Int))) (k n.toNat) none) none
def eqFK:List Field->Nat->List CV->List CV->Option Bool
 | [],_,[],[]=>some true
 | f::fs,i,x::xs,y::ys=>cond (!(f.name== "_")&&Nat.beq f.offset i)
   (match x,y,P.underlying f.type with
   | .int k a,.int k' b,some (.int _)=>cond (decide (k=k')) ((eqFK fs (i+1) xs ys).map fun r=>decide (a=b)&&r) none
   | .bool a,.bool b,some .bool=>(eqFK fs (i+1) xs ys).map fun r=>(a==b)&&r
   | .str a,.str b,some .string=>(eqFK fs (i+1) xs ys).map fun r=>(a.toList==b.toList)&&r
   | _,_,_=>none) none
 | _,_,_,_=>none
def xbvs(t:TypeId)(xs ys:List CV):Option Bool:=
 match P.underlying t with
 | some (.struct fs)=>cond (!(P.stoodInHeld t)&& !(P.eqGuardType P.depth t)) (eqFK P fs.toList 0 xs ys) none
 | _=>none
def binK(op:BinOp)(xt:TypeId)(x y:V)(k:V->Option β):Option β:=
 match x,y with
 | .cl (.int ka a),.cl (.int kb b)=>
  match op with
  | .shl=>cond (decide (b<0)) none (k (.cl (.int ka (ka.wrap (a*2 ^ (min b.toNat ka.bits))))))
  | .shr=>cond (decide (b<0)) none (k (.cl (.int ka (a.fdiv (2 ^ (min b.toNat ka.bits))))))
  | _=>cond (decide (ka=kb)) (match op with
   | .add=>k (.cl (.int ka (ka.wrap (a+b))))
   | .sub=>k (.cl (.int ka (ka.wrap (a - b))))
   | .mul=>k (.cl (.int ka (ka.wrap (a*b))))
   | .quo=>cond (decide (b=0)) none (k (.cl (.int ka (ka.wrap (a.tdiv b)))))
   | .rem=>cond (decide (b=0)) none (k (.cl (.int ka (a.tmod b))))
   | .and=>k (.cl (.int ka (ka.wrap (BitVec.ofInt ka.bits a&&&BitVec.ofInt ka.bits b).toNat)))
   | .or=>k (.cl (.int ka (ka.wrap (BitVec.ofInt ka.bits a||| BitVec.ofInt ka.bits b).toNat)))
   | .xor=>k (.cl (.int ka (ka.wrap (BitVec.ofInt ka.bits a ^^^ BitVec.ofInt ka.bits b).toNat)))
   | .andNot=>k (.cl (.int ka (ka.wrap (BitVec.ofInt ka.bits a&&& ~~~ BitVec.ofInt ka.bits b).toNat)))
   | .eql=>k (.cl (.bool (decide (a=b))))
   | .neq=>k (.cl (.bool (!decide (a=b))))
   | .lss=>k (.cl (.bool (decide (a<b))))
   | .leq=>k (.cl (.bool (decide (a<=b))))
   | .gtr=>k (.cl (.bool (decide (b<a))))
   | .geq=>k (.cl (.bool (decide (b<=a))))
   | _=>none) none
 | .cl (.str a),.cl (.str b)=>
  match op with
  | .add=>cond (Nat.ble (a.size+b.size) LIMN) (k (.cl (.str (a++b)))) none
  | .eql=>k (.cl (.bool (a.toList==b.toList)))
  | .neq=>k (.cl (.bool (!(a.toList==b.toList))))
  | .lss=>k (.cl (.bool (Op.bytesLess a.toList b.toList)))
  | .geq=>k (.cl (.bool (!(Op.bytesLess a.toList b.toList))))
  | .leq=>k (.cl (.bool (Op.bytesLess a.toList b.toList|| a.toList==b.toList)))
  | .gtr=>k (.cl (.bool (!(Op.bytesLess a.toList b.toList|| a.toList==b.toList))))
  | _=>none
 | .cl (.bool a),.cl (.bool b)=>
  match op,P.underlying xt with
  | .eql,some .bool=>k (.cl (.bool (a==b)))
  | .neq,some .bool=>k (.cl (.bool (!(a==b))))
  | _,_=>none
 | .cl (.agg a),.cl (.agg b)=>
  match op,xbvs P xt a b with
  | .eql,some r=>k (.cl (.bool r))
  | .neq,some r=>k (.cl (.bool (!r)))
  | _,_=>none
 | _,_=>none
def unK(op:UnOp)(x:V)(k:V->Option β):Option β:=
 match op,x with
 | .neg,.cl (.int ka a)=>k (.cl (.int ka (ka.wrap (0 - a))))
 | .xor,.cl (.int ka a)=>k (.cl (.int ka (ka.wrap (BitVec.ofInt ka.bits (if ka.signed then -1 else ka.max) ^^^ BitVec.ofInt ka.bits a).toNat)))
 | .not,.cl (.bool b)=>k (.cl (.bool (!b)))
 | _,_=>none
def xbnd(H:Heap):V->Option Rw
 | .nils=>some (.gen 0 [])
 | .ref p o len tip _=>match qaj H p with|some ob=>ob.row.window o len tip|none=>none
 | .cl (.sli k l)=>some (.ints k l)
 | .cl (.slg e l)=>some (.gen e l)
 | _=>none
def spread:Nat->List CV->List CV
 | 0,_=>[]
 | n+1,l=>l.headD .nili::spread n l.tail
theorem qwo: ∀(l:List CV),spread l.length l=l
 | []=>rfl
 | x::r=>by simp[spread,qwo r]
def qfi:CV->Int
 | .int _ n=>n
 | _=>0
def xbyt:CV->ByteArray
 | .str s=>s
 | _=>⟨#[]⟩
def xblm:CV->Bool
 | .bool b=>b
 | _=>false
def qbb:CV->List Int
 | .sli _ l=>l
 | _=>[]
def qca:CV->List CV
 | .slg _ l=>l
 | _=>[]
def qfy(k:IntKind):CV->Bool
 | .int k' _=>decide (k'=k)
 | _=>false
def xbzg:CV->Bool
 | .str _=>true
 | _=>false
def xbsb:CV->Bool
 | .bool _=>true
 | _=>false
def qbl(k:IntKind):CV->Bool
 | .sli k' _=>decide (k'=k)
 | _=>false
def qcj(e:Nat):CV->Bool
 | .slg e' _=>Nat.beq e' e
 | _=>false
def okC(t:TypeId)(c:CV):Bool:=
 match kd P t with
 | .int k=>qfy k c
 | .str=>xbzg c
 | .slice e=>(match kd P e with|.int k=>qbl k c|_=>qcj (qaq P e) c)
 | .one=>(match P.underlying t with|some .bool=>xbsb c|_=>true)
 | _=>true
def xbu9(t:TypeId)(c:CV):CV:=
 match kd P t with
 | .int k=>.int k (qfi c)
 | .str=>.str (xbyt c)
 | .slice e=>(match kd P e with|.int k=>.sli k (qbb c)|_=>.slg (qaq P e) (qca c))
 | .one=>(match P.underlying t with|some .bool=>.bool (xblm c)|_=>c)
 | _=>c
theorem xbkm{P:Program}{t:TypeId}{c:CV}(h:okC P t c=true):xbu9 P t c=c:=by
 unfold okC at h;unfold xbu9;split at h
 ·cases c<;>simp_all [qfy,qfi]
 ·cases c<;>simp_all [xbzg,xbyt]
 ·split at h
  ·cases c<;>simp_all [qbl,qbb]
  ·cases c<;>simp_all [qcj,qca]
 ·split at h
  ·cases c<;>simp_all [xbsb,xblm]
  ·rfl
 ·rfl
def okL:List TypeId->List CV->Bool
 | [],[]=>true
 | t::ts,c::r=>okC P t c&&okL ts r
 | _,_=>false
def xbut:List TypeId->List CV->List CV
 | t::ts,c::r=>xbu9 P t c::xbut ts r
 | _,_=>[]
theorem q2l{P:Program}: ∀ {ts:List TypeId} {l:List CV},okL P ts l=true->xbut P ts l=l
 | [],[],_=>rfl
 | [],_::_,h=>by cases h
 | _::_,[],h=>by cases h
 | t::ts,c::r,h=>by simp only[okL,zab] at h;simp only[xbut];rw[xbkm h.1,q2l h.2]
def qsa(H:Heap)(t:TypeId)(x:V)(k:V->Option β):Option β:=
 match x with
 | .cl (.vp r i o)=>
  match r with
  | .sli ka l=>(match kd P t with
   | .int _=>cond (Nat.beq o 0) (match l[i]? with|some n=>k (.cl (.int ka n))|none=>none) none
   | _=>none)
  | .slg e l=>(match l[i]? with|some c=>one c e o|none=>none)
  | .aggi n ka l=>(match kd P t with
   | .int _=>cond (Nat.beq o 0) (match l[i]? with|some m=>k (.cl (.int ka m))|none=>none) none
   | .arr _ _=>cond (Nat.beq n (qaq P t)&&Nat.beq i 0&&Nat.beq o 0) (k (.cl (.aggi n ka l))) none
   | _=>none)
  | .agga n e l=>(match kd P t with
   | .arr _ _=>cond (Nat.beq (n*e) (qaq P t)&&Nat.beq i 0&&Nat.beq o 0) (k (.cl (.agga n e l))) (match l[i]? with|some c=>one c e o|none=>none)
   | _=>(match l[i]? with|some c=>one c e o|none=>none))
  | .agg l=>cond (Nat.beq i 0) (one (.agg l) l.length o) none
  | _=>none
 | .aptr p n e=>
  match qaj H p,kd P t with
  | some ob,.arr _ _=>cond (Nat.beq (n*e) (qaq P t)) (match ob.row with
   | .arri m ka l=>k (.cl (.aggi m ka l))
   | .arrg m es l=>k (.cl (.agga m es l))
   | _=>none) none
  | _,_=>none
 | .ptr p i o=>
  match qaj H p with
  | some ob=>match ob.row with
   | .ints ka l=>(match kd P t with
    | .int _=>cond (Nat.beq o 0) (match l[i]? with|some n=>k (.cl (.int ka n))|none=>none) none
    | _=>none)
   | .arri _ ka l=>(match kd P t with
    | .int _=>cond (Nat.beq o 0) (match l[i]? with|some n=>k (.cl (.int ka n))|none=>none) none
    | _=>none)
   | .gen e l=>(match l[i]? with|some c=>one c e o|none=>none)
   | .arrg _ e l=>(match l[i]? with|some c=>one c e o|none=>none)
   | .var l=>cond (Nat.beq i 0) (match qv1 P t ((l.drop o).take (qaq P t)) with|some v=>k v|none=>none) none
  | none=>none
 | _=>none
  where
 one (c:CV) (e o:Nat):Option β:=
  match kd P t with
  | .struct _=>cond (Nat.beq o 0&&Nat.beq e (qaq P t)) (cond (okL P (xbjc P 8 t) (spread (qaq P t) (cell1 c))) (k (.cl (.agg (xbut P (xbjc P 8 t) (spread (qaq P t) (cell1 c)))))) none) (cond (Nat.ble (o+qaq P t) e) (k (.cl (.agg (((cell1 c).drop o).take (qaq P t))))) none)
  | .arr _ _=>cond (Nat.beq o 0&&Nat.beq e (qaq P t)) (cond (okL P (xbjc P 8 t) (spread (qaq P t) (cell1 c))) (match qv1 P t ((xbut P (xbjc P 8 t) (spread (qaq P t) (cell1 c))).map .cl) with|some v=>k v|none=>none) none)
   (match qv1 P t ((((cell1 c).drop o).take (qaq P t)).map .cl) with|some v=>k v|none=>none)
  | .bad=>none
  | _=>cond (Nat.blt o e&&okC P t ((cell1 c).getD o .nili)) (k (.cl (xbu9 P t ((cell1 c).getD o .nili)))) none
def qhs(l:List V)(o:Nat):List V->List V
 | []=>l
 | v::r=>qhs (l.set o v) (o+1) r
def q0w(e:Nat)(c:CV):Bool:=(match c with|.agga _ _ _=>false|_=>true)&&Nat.beq (cell1 c).length e
def qc1(H:Heap)(e:Nat)(t:TypeId)(v:V)(k:CV->Upd->Option β):Option β:=
 match qbp P H 4 t v with
 | some c=>cond (q0w e c) (k c (lockAll H (reach H 4 v))) none
 | none=>none
def qmo(H:Heap)(t:TypeId)(x v:V)(k:Upd->Option β):Option β:=
 cond (P.info? t).isSome (match x with
 | .aptr p n e=>
  match qaj H p,v with
  | some ⟨.arri m ka _,false⟩,.cl (.aggi m' kb l')=>cond (decide (ka=kb)&&Nat.beq m m'&&Nat.beq m (qaq P t)) (k [(p,some ⟨.arri m ka l',false⟩)]) none
  | some ⟨.arrg m es _,false⟩,.cl (.agga m' es' l')=>cond (Nat.beq es es'&&Nat.beq m m'&&Nat.beq (m*es) (qaq P t)) (k [(p,some ⟨.arrg m es l',false⟩)]) none
  | _,_=>none
 | .ptr p i o=>
  match qaj H p with
  | some ⟨row,false⟩=>(match row with
   | .ints ka l=>(match v with|.cl (.int kb n)=>cond (decide (ka=kb)&&Nat.beq o 0&&Nat.beq (qaq P t) 1) (k [(p,some ⟨.ints ka (l.set i n),false⟩)]) none|_=>none)
   | .arri m ka l=>(match v with
    | .cl (.int kb n)=>cond (decide (ka=kb)&&Nat.beq o 0&&Nat.beq (qaq P t) 1) (k [(p,some ⟨.arri m ka (l.set i n),false⟩)]) none
    | _=>none)
   | .gen e l=>cond (Nat.beq o 0&&Nat.beq e (qaq P t)&&(reach H 4 v).all (fun q=> !(Nat.beq q p))) (qc1 P H e t v fun c u=>k (u++[(p,some ⟨.gen e (l.set i c),false⟩)])) none
   | .arrg m e l=>cond (Nat.beq o 0&&Nat.beq e (qaq P t)&&(reach H 4 v).all (fun q=> !(Nat.beq q p))) (qc1 P H e t v fun c u=>k (u++[(p,some ⟨.arrg m e (l.set i c),false⟩)])) none
   | .var l=>cond (okV v&&Nat.beq (qd7 v).length (qaq P t)&&Nat.ble (o+qaq P t) l.length&&Nat.beq i 0) (k [(p,some ⟨.var (qhs l o (qd7 v)),false⟩)]) none)
  | _=>none
 | _=>none) none
def qmr(o:Oper):Nat:=match o.dst with|some t=>64+t|none=>62
def xbo0(pos:Nat):Rw->V
 | .arri n _ _=>.aptr pos n 1
 | .arrg n e _=>.aptr pos n e
 | _=>.ptr pos 0 0
def qok(t:TypeId)(v:V)(k:Rw->Option β):Option β:=
 match kd P t,v with
 | .arr _ _,.cl (.aggi n ka l)=>k (.arri n ka l)
 | .arr _ _,.cl (.agga n s l)=>k (.arrg n s l)
 | .arr _ _,_=>none
 | .bad,_=>none
 | _,v=>cond (okV v) (k (.var (qd7 v))) none
def cutK(x:V)(lo hi:Option Int)(k:V->Option β):Option β:=
 match x with
 | .ref p o len tip e=>match lo,hi with
  | none,none=>k x
  | some l,none=>cond (decide (0<=l)) (cond (decide (l<=(len:Int))) (k (.ref p (o+l.toNat) (len - l.toNat) tip e)) none) none
  | none,some h=>cond (decide (0<=h)) (cond (decide (h<=(len:Int))) (k (.ref p o h.toNat false e)) none) none
  | some l,some h=>cond (decide (0<=l)) (cond (decide (l<=h)) (cond (decide (h<=(len:Int))) (k (.ref p (o+l.toNat) (h.toNat - l.toNat) false e)) none) none) none
 | .cl (.sli ka xs)=>lst xs (fun ys=>k (.cl (.sli ka ys)))
 | .cl (.slg e xs)=>lst xs (fun ys=>k (.cl (.slg e ys)))
 | _=>none
  where
 lst {α:Type} (xs:List α) (k:List α->Option β):Option β:=match lo,hi with
  | none,none=>k xs
  | some l,none=>cond (decide (0<=l)) (cond (decide (l<=(xs.length:Int))) (k (xs.drop l.toNat)) none) none
  | none,some h=>cond (decide (0<=h)) (cond (decide (h<=(xs.length:Int))) (k (xs.take h.toNat)) none) none
  | some l,some h=>cond (decide (0<=l)) (cond (decide (l<=h)) (cond (decide (h<=(xs.length:Int))) (k ((xs.take h.toNat).drop l.toNat)) none) none) none
def qp6(s:ByteArray)(lo hi:Option Int)(k:V->Option β):Option β:=
 match lo,hi with
 | none,none=>k (.cl (.str (s.extract 0 s.size)))
 | some l,none=>cond (decide (0<=l)) (cond (decide (l<=(s.size:Int))) (k (.cl (.str (s.extract l.toNat s.size)))) none) none
 | none,some h=>cond (decide (0<=h)) (cond (decide (h<=(s.size:Int))) (k (.cl (.str (s.extract 0 h.toNat)))) none) none
 | some l,some h=>cond (decide (0<=l)) (cond (decide (l<=h)) (cond (decide (h<=(s.size:Int))) (k (.cl (.str (s.extract l.toNat h.toNat)))) none) none) none
def intO:Option V->Option (Option Int)
 | none=>some none
 | some (.cl (.int _ n))=>some (some n)
 | _=>none
def qd5(names:List Nat)(pos j:Nat):Nat:=match names[j]? with|some p=>p|none=>cond (Nat.blt j 32) (pos+1000000*(j - names.length)) 63
mutual
def renV(f:Nat->Nat):V->V
 | .undef=>.undef
 | .cl c=>.cl c
 | .nils=>.nils
 | .agg l=>.agg (renL f l)
 | .tup l=>.tup (renL f l)
 | .iface t v=>.iface t (renV f v)
 | .fn g a b=>.fn g (renL f a) (renL f b)
 | .ptr p i o=>.ptr (f p) i o
 | .aptr p n e=>.aptr (f p) n e
 | .ref p o len tip e=>.ref (f p) o len tip e
def renL(f:Nat->Nat):List V->List V
 | []=>[]
 | v::r=>renV f v::renL f r
end
mutual
def qdj(p:Nat):V->Bool
 | .undef=>false
 | .cl _=>false
 | .nils=>false
 | .agg l=>qmq p l
 | .tup l=>qmq p l
 | .iface _ v=>qdj p v
 | .fn _ a b=>qmq p a|| qmq p b
 | .ptr q _ _=>Nat.beq q p
 | .aptr q _ _=>Nat.beq q p
 | .ref q _ _ _ _=>Nat.beq q p
def qmq(p:Nat):List V->Bool
 | []=>false
 | v::r=>qdj p v|| qmq p r
end
def qgu(f:Nat->Nat):Rw->Rw
 | .var l=>.var (renL f l)
 | r=>r
def qbc:List Nat->Nat->Nat->Nat
 | [],_,_=>63
 | q::r,j,p=>cond (Nat.beq p q) j (qbc r (j+1) p)
def dedup:List Nat->List Nat
 | []=>[]
 | p::r=>p::(dedup r).filter fun q=> !(Nat.beq p q)
def qhr(H:Heap):List Nat->Option (List Obj)
 | []=>some []
 | p::r=>match qaj H p,qhr H r with|some ob,some l=>some (ob::l)|_,_=>none
def q7u(H:Heap)(br:List Nat):Nat->List TypeId->List V->Option (List V)
 | _,_,[]=>some []
 | i,ts,v::r=>
  match q7u H br (i+1) ts.tail r with
  | none=>none
  | some l=>cond (br.any (Nat.beq i)) (some (v::l)) (match qbp P H 6 (ts.headD 0) v with|some c=>some (.cl c::l)|none=>none)
def qby(H:Heap)(br:List Nat):Nat->List V->List Nat
 | _,[]=>[]
 | i,v::r=>cond (br.any (Nat.beq i)) (reach H 6 v) []++qby H br (i+1) r
def qbw(H:Heap)(br:List Nat):Nat->List V->List Nat
 | _,[]=>[]
 | i,v::r=>cond (br.any (Nat.beq i)) [] (reach H 6 v)++qbw H br (i+1) r
def qfx(names:List Nat)(pos:Nat)(f:Nat->Nat):Nat->List (Option Obj)->Upd
 | _,[]=>[]
 | j,ob::r=>(qd5 names pos j,ob.map fun o=> {o with row:=qgu f o.row})::qfx names pos f (j+1) r
def xbe3:Option Obj->Bool
 | none=>true
 | some ⟨row,lock⟩=> !lock&&(match row with
  | .ints .. | .arri .. =>true
  | .var l=>l.all xblr
  | _=>false)
def qc7(names:List Nat)(pos n j:Nat):Nat:=cond (Nat.blt j n) (qd5 names pos j) 63
def xbyl:List V->V
 | [v]=>v
 | l=>.tup l
def q24(H:Heap)(g:FuncId)(mk:Bool)(pos:Nat)(args:List V)(kv:V->Upd->Option β)(kp:CV->Upd->Option β):Option β:=
 match P.funcs[g]? with
 | none=>none
 | some fn=>
  let br:=E.byref g;let names:=dedup (qby H br 0 args);let lent:=qbw H br 0 args
  cond ((names.any fun p=>lent.any (Nat.beq p))|| Nat.ble 28 names.length) none<|
  match qaj H 63,q7u P H br 0 fn.params.toList args,qhr H names with
  | none,some as,some obs=>
   cond (E.pre g (renL (qbc names 0) as) (obs.map fun o=> {o with row:=qgu (qbc names 0) o.row})) (xbuo (fun out=>match out with
   | .ret vs objs=>
    cond (Nat.ble names.length objs.length&&Nat.ble objs.length (names.length+cond mk 4 0))
     (kv (xbyl (renL (qc7 names pos objs.length) vs)) ((cond (vs.all xblr&&objs.all xbe3) [] (lockAll H lent))++qfx names pos (qc7 names pos objs.length) 0 objs)) none
   | .pan c objs=>
    cond (Nat.beq objs.length names.length) (kp c ((cond (q9i c&&objs.all xbe3) [] (lockAll H lent))++qfx names pos (qc7 names pos objs.length) 0 objs)) none
   | .yld _ _ _=>none)
    (E.orc g (renL (qbc names 0) as) (obs.map fun o=> {o with row:=qgu (qbc names 0) o.row}))) none
  | _,_,_=>none
def fnOf:V->Option (FuncId×List V×List V)
 | .cl (.fn (.func f) a b)=>some (f,a.map .cl,b.map .cl)
 | .fn (.func f) a b=>some (f,a,b)
 | _=>none
def xbbe(t:TypeId):V->V
 | .cl c=>.cl (.iface t c)
 | v=>.iface t v
def mkFn(f:Fn)(a b:List V):V:=
 match qdu a,qdu b with
 | some x,some y=>.cl (.fn f x y)
 | _,_=>.fn f a b
def xbel(place:Nat->Option (Nat×Nat))(cells:List V):List (Nat×V)->Option (List V)
 | []=>some cells
 | (i,v)::r=>match place i with
  | none=>none
  | some (off,size)=>cond (okV v&&Nat.beq (qd7 v).length size&&Nat.ble (off+size) cells.length) (xbel place (qhs cells off (qd7 v)) r) none
def qeo(H:Heap)(e:TypeId)(row:Rw):List (Nat×V)->Upd->Option (Rw×Upd)
 | [],u=>some (row,u)
 | (i,v)::r,u=>match row with
  | .ints k l=>(match v with|.cl (.int kb n)=>cond (decide (k=kb)&&Nat.blt i l.length) (qeo H e (.ints k (l.set i n)) r u) none|_=>none)
  | .gen s l=>(match qbp P H 4 e v with|some c=>cond (q0w s c&&Nat.blt i l.length) (qeo H e (.gen s (l.set i c)) r (u++lockAll H (reach H 4 v))) none|none=>none)
  | _=>none
def qr1(e:TypeId)(n:Nat):Option Rw:=
 match q7t P e with
 | none=>none
 | some z=>match kd P e with
  | .int ki=>(match z with|.cl (.int kb z0)=>cond (decide (ki=kb)&&decide (z0=0)&&Nat.beq (qaq P e) 1) (some (.ints ki (List.replicate n 0))) none|_=>none)
  | _=>(match qbp P [] 4 e z with|some zc=>cond (q0w (qaq P e) zc&& !(Nat.beq (qaq P e) 0)) (some (.gen (qaq P e) (List.replicate n zc))) none|none=>none)
def qhd(x:V)(k:V->Option β):Option β:=
 match x with
 | .ptr p i o=>k (.ptr p i o)
 | .aptr p n e=>k (.aptr p n e)
 | .cl (.vp r i o)=>k (.cl (.vp r i o))
 | .cl (.fn (.func f) a b)=>k (.cl (.fn (.func f) a b))
 | .fn (.func f) a b=>k (.fn (.func f) a b)
 | _=>none
def xbhs(src dst:TypeId)(x:V)(k:V->Option β):Option β:=
 match kd P dst,x with
 | .int ki,.cl (.int _ n)=>cond (known P src) (k (.cl (.int ki (ki.wrap n)))) none
 | .str,.cl (.str b)=>cond (known P src) (k (.cl (.str b))) none
 | _,_=>none
def qox(H:Heap)(src:TypeId)(x:V)(k:V->Option β):Option β:=
 match kd P src with
 | .slice e=>match kd P e with
  | .int .u8=>match x with
   | .nils=>k (.cl (.str (xbeo [])))
   | x=>match xbnd H x with
    | some (.ints .u8 l)=>k (.cl (.str (xbeo l)))
    | _=>none
  | _=>none
 | _=>none
def qe9(t:TypeId)(f:Nat)(x:V)(k:V->Option β):Option β:=
 match kd P t with
 | .struct fs=>match fs[f]? with
  | some fd=>cond (Nat.beq (qaq P fd.type) 0) none (match x with
   | .ptr p i o=>k (.ptr p i (o+fd.offset))
   | .cl (.vp r i o)=>k (.cl (.vp r i (o+fd.offset)))
   | _=>none)
  | none=>none
 | _=>none
def q0x(t:TypeId)(f:Nat)(x:V)(k:V->Option β):Option β:=
 match kd P t with
 | .struct fs=>match fs[f]? with
  | some fd=>match x with
   | .cl (.agg l)=>(match qv1 P fd.type (((l.drop fd.offset).take (qaq P fd.type)).map .cl) with|some v=>k v|none=>none)
   | .agg l=>(match qv1 P fd.type ((l.drop fd.offset).take (qaq P fd.type)) with|some v=>k v|none=>none)
   | _=>none
  | none=>none
 | _=>none
def qfa(t:TypeId)(x i:V)(k:V->Option β):Option β:=
 match i with
 | .cl (.int _ n)=>match kd P t,x with
  | .slice e,.ref p o len _ es=>cond (Nat.beq es (qaq P e)&& !(Nat.beq es 0)) (idxK n len fun j=>k (.ptr p (o+j) 0)) none
  | .slice e,.cl (.sli ki l)=>cond (Nat.beq (qaq P e) 1) (idxK n l.length fun j=>k (.cl (.vp (.sli ki l) j 0))) none
  | .slice e,.cl (.slg es l)=>cond (Nat.beq es (qaq P e)&& !(Nat.beq es 0)) (idxK n l.length fun j=>k (.cl (.vp (.slg es l) j 0))) none
  | .arr m e,.aptr p m' es=>cond (Nat.beq m m'&&Nat.beq es (qaq P e)&& !(Nat.beq es 0)) (idxK n m fun j=>k (.ptr p j 0)) none
  | .arr m e,.ptr p i0 o0=>cond (!(Nat.beq (qaq P e) 0)) (idxK n m fun j=>k (.ptr p i0 (o0+j*qaq P e))) none
  | .arr m e,.cl (.vp (.aggi m' ki l) 0 0)=>cond (Nat.beq m m'&&Nat.beq (qaq P e) 1) (idxK n m fun j=>k (.cl (.vp (.aggi m' ki l) j 0))) none
  | .arr m e,.cl (.vp (.agga m' es l) i0 o0)=>cond (Nat.beq m m'&&Nat.beq es (qaq P e)&& !(Nat.beq es 0)&&Nat.beq i0 0&&Nat.beq o0 0) (idxK n m fun j=>k (.cl (.vp (.agga m' es l) j 0)))
   (cond (Nat.beq (qaq P e) 0) none (idxK n m fun j=>k (.cl (.vp (.agga m' es l) i0 (o0+j*qaq P e)))))
  | _,_=>none
 | _=>none
def q04(t:TypeId)(x i:V)(k:V->Option β):Option β:=
 match i with
 | .cl (.int _ n)=>match kd P t,x with
  | .str,.cl (.str b)=>idxK n b.size fun _=>k (.cl (.int .u8 (bget b n)))
  | .arr m e,.cl (.aggi m' ki l)=>(match kd P e with
   | .int _=>cond (Nat.beq m m'&&Nat.beq (qaq P e) 1) (idxK n m fun j=>(match l[j]? with|some z=>k (.cl (.int ki z))|none=>none)) none
   | _=>none)
  | .arr m e,.cl (.agga m' es l)=>cond (Nat.beq m m'&&Nat.beq (qaq P e) es) (idxK n m fun j=>(match l[j]?,kd P e with
   | some (.agg l'),.struct _=>k (.cl (.agg l'))
   | _,_=>none)) none
  | _,_=>none
 | _=>none
def qkt(x:V)(i:Nat)(k:V->Option β):Option β:=
 match x with
 | .tup l=>match l[i]? with|some v=>k v|none=>none
 | _=>none
def qpw(asserted:TypeId)(ok:Bool)(x:V)(k:V->Option β):Option β:=
 cond (concr P asserted) (match x with
  | .cl (.iface t c)=>cond (Nat.beq t asserted) (k (cond ok (.tup [.cl c,.cl (.bool true)]) (.cl c))) (cond ok (match q7t P asserted with|some z=>k (.tup [z,.cl (.bool false)])|none=>none) none)
  | .iface t v=>cond (Nat.beq t asserted) (k (cond ok (.tup [v,.cl (.bool true)]) v)) (cond ok (match q7t P asserted with|some z=>k (.tup [z,.cl (.bool false)])|none=>none) none)
  | _=>none) none
def lenK(t:Option TypeId)(l:List V)(k:V->Option β):Option β:=
 match t.map (kd P),l with
 | some .str,[.cl (.str b)]=>k (.cl (.int .i64 (b.size:Int)))
 | some (.slice _),[.cl (.sli _ l)]=>k (.cl (.int .i64 (l.length:Int)))
 | some (.slice _),[.cl (.slg _ l)]=>k (.cl (.int .i64 (l.length:Int)))
 | some (.slice _),[.ref _ _ n _ _]=>k (.cl (.int .i64 (n:Int)))
 | some (.slice _),[.nils]=>k (.cl (.int .i64 0))
 | some (.arr n _),[_]=>k (.cl (.int .i64 (n:Int)))
 | _,_=>none
def minK(l:List V)(k:V->Option β):Option β:=
 match l with
 | [.cl (.int ka a),.cl (.int kb b)]=>cond (decide (ka=kb)) (k (.cl (.int ka (cond (decide (b<a)) b a)))) none
 | _=>none
def maxK(l:List V)(k:V->Option β):Option β:=
 match l with
 | [.cl (.int ka a),.cl (.int kb b)]=>cond (decide (ka=kb)) (k (.cl (.int ka (cond (decide (a<b)) b a)))) none
 | _=>none
def slice3K(t:TypeId)(x:V)(h m:Int)(k:V->Option β):Option β:=
 match kd P t,x with
 | .slice e,.cl (.sli ki xs)=>cond (Nat.beq 1 (qaq P e)&&decide (0<=h)&&decide (h<=m)) (cond (decide (m<=(xs.length:Int))) (k (.cl (.sli ki (xs.take h.toNat)))) none) none
 | _,_=>none
def capK(t:Option TypeId)(l:List V)(k:V->Option β):Option β:=
 match t.map (kd P),l with
 | some (.slice _),[.nils]=>k (.cl (.int .i64 0))
 | _,_=>none
def qwm(t:TypeId)(x:V)(lo hi:Option Int)(k:V->Option β):Option β:=
 match kd P t,x with
 | .str,.cl (.str s)=>qp6 s lo hi k
 | .arr m e,.aptr p n es=>cond (Nat.beq m n&&Nat.beq es (qaq P e)&& !(Nat.beq es 0)) (cutK (.ref p 0 n true es) lo hi k) none
 | .slice e,.ref p o len tip es=>cond (Nat.beq es (qaq P e)&& !(Nat.beq es 0)) (cutK (.ref p o len tip es) lo hi k) none
 | .slice e,.cl (.sli ki xs)=>cond (Nat.beq 1 (qaq P e)) (cutK (.cl (.sli ki xs)) lo hi k) none
 | .slice e,.cl (.slg es xs)=>cond (Nat.beq es (qaq P e)&& !(Nat.beq es 0)) (cutK (.cl (.slg es xs)) lo hi k) none
 | .slice e,.nils=>cond (!(Nat.beq (qaq P e) 0)) (cutK (.cl (.sli .u8 [])) lo hi fun _=>k .nils) none
 | _,_=>none
def q0q(t:TypeId)(ps:List (Nat×V))(k:V->Option β):Option β:=
 match q7t P t with
 | some z=>cond (okV z) (match kd P t with
  | .struct fs=>cond (fs.toList.all fun f=>(P.info? f.type).isSome) (match xbel (fun i=>(fs[i]?).map fun f=>(f.offset,qaq P f.type)) (qd7 z) ps with
   | some l=>k (mkAgg l)
   | none=>none) none
  | .arr n e=>cond (P.info? e).isSome (match xbel (fun i=>some (i*qaq P e,qaq P e)) (qd7 z) ps with
   | some l=>(match qv1 P t l with|some v=>k v|none=>none)
   | none=>none) none
  | _=>none) none
 | none=>none
def qgv(x y:Rw):Option Rw:=
 match x,y with
 | .ints ka l,.gen 0 []=>some (.ints ka l)
 | .gen e l,.gen 0 []=>some (.gen e l)
 | .ints ka l,.ints kb m=>cond (decide (ka=kb)) (some (.ints ka (l++m))) none
 | .gen e l,.gen e' m=>cond (Nat.beq e e') (some (.gen e (l++m))) none
 | _,_=>none
def q2a(H:Heap)(y:V):Option Rw:=
 match y with
 | .cl (.str s)=>some (.ints .u8 (bytesOf s))
 | y=>xbnd H y
def qer(H:Heap)(st:TypeId)(pos:Nat)(x y:V)(k:V->Upd->Option β):Option β:=
 match kd P st with
 | .slice e=>match qr1 P e 0,q2a H y with
  | some r0,some ry=>(match x with
   | .nils=>(match qgv r0 ry with
    | some r=>cond (Nat.beq r.esz (qaq P e)) (cond (Nat.ble (r.len*qr7 P e) LIMN) (cond (Nat.ble r.len LIMN) (k (.ref pos 0 r.len true (qaq P e)) [(pos,some ⟨r,false⟩)]) none) none) none
    | none=>none)
   | .ref p o len true _=>(match qaj H p with
    | some ⟨row,false⟩=>(match row.window o len true with
     | some rx=>(match qgv rx ry with
      | some r=>cond (Nat.beq r.esz (qaq P e)) (cond (Nat.ble (r.len*qr7 P e) LIMN) (cond (Nat.ble r.len LIMN) (k (.ref pos 0 r.len true (qaq P e)) [(p,none),(pos,some ⟨r,false⟩)]) none) none) none
      | none=>none)
     | none=>none)
    | _=>none)
   | _=>none)
  | _,_=>none
 | _=>none
def q0m(H:Heap)(st:TypeId)(pos:Nat)(x y:V)(k:V->Upd->Option β):Option β:=
 match kd P st with
 | .slice e=>match qr1 P e 0,q2a H y with
  | some _,some ry=>(match x with
   | .ref p o len true _=>(match qaj H p with
    | some ⟨row,false⟩=>(match row.window o len true with
     | some rx=>(match qgv rx ry with
      | some r=>cond (Nat.beq r.esz (qaq P e)) (cond (Nat.ble (r.len*qr7 P e) LIMN) (cond (Nat.ble r.len LIMN) (cond (Nat.ble 1 ry.len) (k (.ref pos 0 r.len true (qaq P e)) [(p,some ⟨row,true⟩),(pos,some ⟨r,true⟩)]) none) none) none) none
      | none=>none)
     | none=>none)
    | _=>none)
   | _=>none)
  | _,_=>none
 | _=>none
def qb7(H:Heap)(t:TypeId)(n pos:Nat)(ps:List (Nat×V))(k:V->Upd->Option β):Option β:=
 match kd P t with
 | .slice e=>cond (Nat.ble (n*qaq P e) 16777216) (match qr1 P e n with
  | some row=>(match qeo P H e row ps [] with
   | some (r,u)=>k (.ref pos 0 n true (qaq P e)) (u++[(pos,some ⟨r,false⟩)])
   | none=>none)
  | none=>none) none
 | _=>none
def qej(t:TypeId)(pos:Nat)(n c:V)(k:V->Upd->Option β):Option β:=
 match kd P t,n,c with
 | .slice e,.cl (.int _ n),.cl (.int _ c)=>
  cond (decide (0<=n)) (cond (decide (n<=c)) (cond (decide (c*(qr7 P e:Int)<=LIM)) (cond (decide (c<=LIM)) (match qr1 P e n.toNat with
   | some row=>k (.ref pos 0 n.toNat true (qaq P e)) [(pos,some ⟨row,false⟩)]
   | none=>none) none) none) none) none
 | _,_,_=>none
def xbfk:V->Bool
 | .cl (.str _)=>true
 | _=>false
def akK(s:List (Nat×V))(H:Heap)(o:Oper)(k:V->Upd->Option β):Option β:=
 match o.op with
 | .call c=>(match c.callee with
  | .builtin .append=>(match c.argTypes.toList,c.args.toList.map (opd E s) with
   | [t,t2],[x,y]=>(match kd P t2 with
    | .slice _=>cond (xbfk y) none (q0m P H t (qmr o) x y k)
    | _=>none)
   | _,_=>none)
  | _=>none)
 | _=>none
noncomputable def opK(s:List (Nat×V))(H:Heap)(o:Oper)(k:V->Upd->Option β)(kp:CV->Upd->Option β):Option β:=
 let ρ:=opd E s;let pos:=qmr o
 match o.op with
 | .move x=>k (ρ x) []
 | .assign x=>(match x,ρ x with
  | .const _,.nils=>(match kd P o.type with
   | .slice e=>(match qr1 P e 0 with|some r=>k (.ref pos 0 0 true (qaq P e)) [(pos,some ⟨r,false⟩)]|none=>none)
   | _=>none)
  | _,v=>k v [])
 | .pick c a b=>(match ρ c with|.cl (.bool t)=>cond t (k (ρ a) []) (k (ρ b) [])|_=>none)
 | .alloc t=>(match q7t P t with
  | some z=>qok P t z fun r=>k (xbo0 pos r) [(pos,some ⟨r,false⟩)]
  | none=>none)
 | .box t x=>qok P t (ρ x) fun r=>k (xbo0 pos r) [(pos,some ⟨r,false⟩)]
 | .load t a=>qsa P H t (ρ a) fun v=>k v []
 | .store t a x=>qmo P H t (ρ a) (ρ x) fun u=>k .undef u
 | .nilCheck x=>qhd (ρ x) fun v=>k v []
 | .binOp op t x y _=>binK P op t (ρ x) (ρ y) fun v=>k v []
 | .unOp op _ x=>unK op (ρ x) fun v=>k v []
 | .convert src dst x=>(match kd P dst,ρ x with
  | .slice e,.cl (.str b)=>cond (known P src) (match kd P e with
   | .int .u8=>cond (Nat.beq (qaq P e) 1) (k (.ref pos 0 (bytesOf b).length true 1) [(pos,some ⟨.ints .u8 (bytesOf b),false⟩)]) none
   | _=>none) none
  | .str,.cl (.str b)=>xbhs P src dst (.cl (.str b)) fun v=>k v []
  | .str,v=>qox P H src v fun v=>k v []
  | _,v=>xbhs P src dst v fun v=>k v [])
 | .makeInterface t x=>cond (concr P t) (match ρ x with|.undef=>none|.nils=>none|v=>k (xbbe t v) []) none
 | .makeFunc f a b=>k (mkFn f (a.toList.map ρ) (b.toList.map ρ)) []
 | .makeSlice t n c=>qej P t pos (ρ n) (ρ c) k
 | .slice t x lo hi mx=>(match intO (mx.map ρ),intO (lo.map ρ),intO (hi.map ρ) with
  | some none,some l,some h=>qwm P t (ρ x) l h fun v=>k v []
  | some (some m),some none,some (some h)=>slice3K P t (ρ x) h m fun v=>k v []
  | _,_,_=>none)
 | .fieldAddr t x f=>qe9 P t f (ρ x) fun v=>k v []
 | .field t x f=>q0x P t f (ρ x) fun v=>k v []
 | .indexAddr t x i=>qfa P t (ρ x) (ρ i) fun v=>k v []
 | .index t x i=>q04 P t (ρ x) (ρ i) fun v=>k v []
 | .build t ps=>q0q P t (ps.toList.map fun p=>(p.1,ρ p.2)) fun v=>k v []
 | .buildSlice t n ps=>qb7 P H t n pos (ps.toList.map fun p=>(p.1,ρ p.2)) fun v u=>k v (hide (E.sr pos) u)
 | .extract x i=>qkt (ρ x) i fun v=>k v []
 | .typeAssert x _ asserted ok=>qpw P asserted ok (ρ x) fun v=>k v []
 | .panic x=>(match qbp P H 4 0 (ρ x) with|some (.iface t c)=>kp (.iface t c) (lockAll H (reach H 4 (ρ x)))|_=>none)
 | .call c=>(match c.callee with
  | .builtin .len=>lenK P c.argTypes[0]? (c.args.toList.map ρ) fun v=>k v []
  | .builtin .cap=>capK P c.argTypes[0]? (c.args.toList.map ρ) fun v=>k v []
  | .builtin .min=>minK (c.args.toList.map ρ) fun v=>k v []
  | .builtin .max=>maxK (c.args.toList.map ρ) fun v=>k v []
  | .builtin .append=>(match c.argTypes.toList,c.args.toList.map ρ with
   | [t,t2],[x,y]=>(match kd P t2,y with
    | .str,.cl (.str _)=>qer P H t pos x y k
    | .slice _,y=>cond (xbfk y) none (qer P H t pos x y k)
    | _,_=>none)
   | _,_=>none)
  | .value f=>(match fnOf (ρ f) with
   | some (g,a,b)=>q24 P E H g (match f with|.func g=>E.keep g|_=>false) pos (a++c.args.toList.map ρ++b) k kp
   | none=>none)
  | _=>none)
 | _=>none
end
def xbl7(p:Nat):List (Nat×V)->List (Nat×V)
 | []=>[]
 | (t,v)::r=>cond (qdj p v) ((t,.undef)::xbl7 p r) ((t,v)::xbl7 p r)
def q6x(p:Nat):Rw->Rw
 | .var l=>.var (l.map fun v=>cond (qdj p v) .undef v)
 | r=>r
def q6w(p:Nat):Heap->Heap
 | []=>[]
 | (q,ob)::r=>cond (Nat.beq q p) (q6w p r) ((q,{ob with row:=q6x p ob.row})::q6w p r)
def vacate(p:Nat)(σ:St):St:=⟨xbl7 p σ.slots,q6w p σ.heap⟩
def one2(p q:Nat)(x:Nat):Nat:=cond (Nat.beq x p) q x
def renS(f:Nat->Nat):List (Nat×V)->List (Nat×V)
 | []=>[]
 | (t,v)::r=>(t,renV f v)::renS f r
def q4m(f:Nat->Nat):Heap->Heap
 | []=>[]
 | (p,ob)::r=>qct (q4m f r) (f p) {ob with row:=qgu f ob.row}
def rename(p q:Nat)(σ:St):St:=
 let τ:=vacate q σ
 ⟨renS (one2 p q) τ.slots,q4m (one2 p q) τ.heap⟩
def free(p:Nat)(σ:St):St:=match qaj σ.heap p with|some _=>rename p (p+100000) σ|none=>vacate p σ
def trimH(l:List Nat):Heap->Heap
 | []=>[]
 | (t,v)::r=>cond (l.any (Nat.beq t)) ((t,v)::trimH l r) (trimH l r)
section
variable (P:Program) (E:Env) {β:Type}
def makes(o:Oper):List Nat:=
 match o.op with
 | .alloc _|.box _ _|.buildSlice .. | .makeSlice .. | .convert .. =>[qmr o]
 | .assign (.const _)=>[qmr o]
 | .call c=>(match c.callee with
  | .builtin .append=>[qmr o]
  | .value (.func g)=>cond (E.keep g) [qmr o,qmr o+1000000,qmr o+2000000,qmr o+3000000] []
  | .value _=>[]
  | _=>[])
 | _=>[]
def q32(p:Nat):List (Nat×V)->Bool
 | []=>true
 | (_,v)::r=> !(qdj p v)&&q32 p r
def q31(p:Nat):Heap->Bool
 | []=>true
 | (q,ob)::r=> !(Nat.beq q p)&&(match ob.row with|.var l=> !(qmq p l)|_=>true)&&q31 p r
def xbem(s:List (Nat×V))(H:Heap):List Nat->Bool
 | []=>true
 | p::r=>Nat.ble 32 p&&q32 p s&&q31 p H&&xbem s H r
def prep:List Oper->St->St
 | [],σ=>σ
 | o::r,σ=>prep r ((makes E o).foldl (fun τ p=>free p τ) σ)
def setD(s:List (Nat×V)):Option Tmp->V->List (Nat×V)
 | none,_=>s
 | some d,.undef=>qw9 s d
 | some d,v=>qct s d v
def xbek(o:Oper):Bool:=match o.dst with|some d=>Nat.blt d E.nt|none=>true
def decK(s:List (Nat×V))(d:Nat)(f:Bool->List (Nat×V)->Option β):Option β:=
 match getV s d with
 | .cl (.bool b)=>cond b (f true (qct s d (.cl (.bool true)))) (f false (qct s d (.cl (.bool false))))
 | _=>none
def q6t(s:List (Nat×V))(d:Nat)(want:Bool)(go skip:List (Nat×V)->Option β):Option β:=
 match getV s d with
 | .tup []=>skip s
 | _=>decK s d fun b s=>match b,want with
  | true,true|false,false=>go s
  | _,_=>skip s
def xbjv(E:Env)(s:List (Nat×V))(o:Op)(f:List (Nat×V)->Option β):Option β:=
 match o with
 | .pick (.tmp d) _ _=>decK s d fun _ s'=>f s'
 | .call ⟨.value (.func g),xs,_⟩=>match E.spl g with
  | some i=>match xs[i]? with
   | some (.tmp d)=>decK s d fun _ s'=>f s'
   | _=>f s
  | none=>f s
 | _=>f s
noncomputable def xbli(x y:Option β):Option β:=@ite _ (x=y) (Classical.propDecidable _) x none
def qep:V->Option (Option Nat)
 | .nils=>some none
 | .cl (.sli _ l)=>some (some l.length)
 | .cl (.slg e l)=>cond (Nat.beq e 0) none (some (some l.length))
 | .ref _ _ len _ _=>some (some len)
 | _=>none
def qu6:V->Option (Option Nat)
 | .cl .nili=>some none
 | .cl (.iface _ _)=>some (some 1)
 | .iface _ _=>some (some 1)
 | _=>none
def q30(s:List (Nat×V))(o:Op):Option (Bool×Option Nat):=
 match o with
 | .binOp .eql t x (.const (.slice none 0 0)) _=>(match kd P t with|.slice _=>(qep (opd E s x)).map fun n=>(false,n)|_=>none)
 | .binOp .neq t x (.const (.slice none 0 0)) _=>(match kd P t with|.slice _=>(qep (opd E s x)).map fun n=>(true,n)|_=>none)
 | .binOp .eql t x (.const .nilIface) _=>(match P.underlying t with|some (.interface _)=>(qu6 (opd E s x)).map fun n=>(false,n)|_=>none)
 | .binOp .neq t x (.const .nilIface) _=>(match P.underlying t with|some (.interface _)=>(qu6 (opd E s x)).map fun n=>(true,n)|_=>none)
 | _=>none
noncomputable def nilK(n:Option Nat)(f:Bool->Option β):Option β:=
 match n with
 | none=>f true
 | some n=>cond (Nat.beq n 0) (xbli (f true) (f false)) (f false)
def xbg9(b:Bool)(v:V)(f:V->Option β):Option β:=
 cond b (match v with|.cl (.bool x)=>cond x (f (.cl (.bool true))) (f (.cl (.bool false)))|v=>f v) (f v)
def xbud:Option Tmp->Bool
 | some d=>E.dc d
 | none=>false
def xbui:V->V
 | .cl (.is c _)=>.cl c
 | v=>v
def xbhb(o:Op)(v:V):V:=match o with|.move _=>xbui v|_=>v
noncomputable def opsK(ops:Array Oper):List Oper->St->(Ex->St->Option β)->Option β
 | [],σ,k=>k .normal σ
 | o::r,σ,k=>
  let go (s:List (Nat×V)):Option β:=xbjv E s o.op fun s=>match q30 P E s o.op with
   | some (neg,n)=>cond (xbek E o) (nilK n fun b=>opsK ops r ⟨setD s o.dst (.cl (.bool (cond neg (!b) b))),σ.heap⟩ k) none
   | none=>cond (xbem s σ.heap (makes E o)&&xbek E o) (
    cond (E.ak (qmr o)) (akK P E s σ.heap o fun v u=>opsK ops r ⟨setD s o.dst v,updH σ.heap u⟩ k)
    (opK P E s σ.heap o (fun v u=>xbg9 (xbud E o.dst) (xbhb o.op v) fun v=>opsK ops r ⟨setD s o.dst v,updH σ.heap u⟩ k) (fun c u=>k (.pan c) ⟨s,updH σ.heap u⟩))) none
  match o.guard with
  | none=>go σ.slots
  | some (j,want)=>
   match (ops[j]?).bind (·.dst) with
   | none=>none
   | some d=>q6t σ.slots d want go fun s=>opsK ops r ⟨setD s o.dst (.tup []),σ.heap⟩ k
def touch(s:List (Nat×V))(H:Heap)(o:Oper):List Nat×List Nat:=
 let ρ:=opd E s
 match o.op with
 | .load _ a=>(match ρ a with|.ptr p _ _=>([p],[])|.aptr p _ _=>([p],[])|_=>([],[]))
 | .store _ a x=>(match ρ a with|.ptr p _ _=>([],p::reach H 4 (ρ x))|.aptr p _ _=>([],[p])|_=>([],[]))
 | .convert _ _ x=>(reach H 4 (ρ x),[])
 | .buildSlice _ _ ps=>([],ps.toList.flatMap fun p=>reach H 4 (ρ p.2))
 | .panic x=>([],reach H 4 (ρ x))
 | .call c=>(match c.callee with
  | .builtin .append=>(match c.args.toList.map ρ with|[x,y]=>(reach H 4 y,reach H 4 x)|_=>([],[]))
  | .value f=>(match fnOf (ρ f) with
   | some (g,a,b)=>([63],(a++c.args.toList.map ρ++b).flatMap (reach H 6))
   | none=>([],[]))
  | _=>([],[]))
 | _=>([],[])
def meets(a b:List Nat):Bool:=a.any fun p=>b.any (Nat.beq p)
def clash(x y:List Nat×List Nat):Bool:=meets x.2 y.1|| meets x.2 y.2|| meets x.1 y.2
def apart(bits:Nat)(fp:List Nat×List Nat):List (Nat×List Nat×List Nat)->Bool
 | []=>true
 | (i,f)::r=>(bits.testBit i|| !(clash f fp))&&apart bits fp r
def noWrites(bits:Nat):List (Nat×List Nat×List Nat)->Bool
 | []=>true
 | (i,f)::r=>(bits.testBit i|| f.2.isEmpty)&&noWrites bits r
def qmv(b:Array Nat)(i:Nat):List Nat->Bool
 | []=>true
 | j::r=>(Nat.ble j i|| (b.getD j 0).testBit i)&&qmv b i r
def qmc(p:Nat):Upd->Bool
 | []=>true
 | (q,ob)::r=> !(Nat.beq q p)&&(match ob with|some ⟨.var l,_⟩=> !(qmq p l)|_=>true)&&qmc p r
def q6k(j bits:Nat)(v:V)(u:Upd):Nat->List Oper->Bool
 | _,[]=>true
 | i,o::r=>(Nat.beq i j|| bits.testBit i|| (makes E o).all fun p=> !(qdj p v)&&qmc p u)&&q6k j bits v u (i+1) r
def cleanF(j bits:Nat)(fp:List Nat):Nat->List Oper->Bool
 | _,[]=>true
 | i,o::r=>(Nat.beq i j|| bits.testBit i|| !(meets (makes E o) fp))&&cleanF j bits fp (i+1) r
def qp7(H:Heap):Heap:=trimH (List.range 32) H
noncomputable def xbe0(ops:Array Oper)(bef:Array Nat):Nat->List (Nat×List Nat×List Nat)->List Oper->St->(Ex->St->Option β)->Option β
 | _,_,[],σ,k=>k .normal σ
 | i,fps,o::r,σ,k=>
  let go (s:List (Nat×V)):Option β:=xbjv E s o.op fun s=>
   cond (apart (bef.getD i 0) (touch E s σ.heap o) fps&&xbek E o&&cleanF E i (bef.getD i 0) ((touch E s σ.heap o).1++(touch E s σ.heap o).2) 0 ops.toList)
   (opK P E s σ.heap o (fun v u=>cond (q6k E i (bef.getD i 0) v u 0 ops.toList) (xbe0 ops bef (i+1) ((i,touch E s σ.heap o)::fps) r ⟨setD s o.dst v,updH σ.heap u⟩ k) none)
    (fun c u=>cond (noWrites (bef.getD i 0) fps&&qmv bef i (List.range ops.size)) (k (.pan c) ⟨[],qp7 (updH σ.heap u)⟩) none)) none
  match o.guard with
  | none=>go σ.slots
  | some (j,want)=>
   match (ops[j]?).bind (·.dst) with
   | none=>none
   | some d=>q6t σ.slots d want go fun s=>xbe0 ops bef (i+1) fps r ⟨setD s o.dst (.tup []),σ.heap⟩ k
def looks(ops:Array Oper)(o:Oper):List Nat:=
 (o.op.operands.toList.filterMap fun|.tmp t=>some t|_=>none)++(match o.guard with|some (j,_)=>((ops[j]?).bind (·.dst)).toList|none=>[])
def xbj1(o o':Oper):Bool:=match o.dst,o'.dst with|some d,some d'=>Nat.beq d d'| _,_=>false
def q9f(ops:Array Oper)(bef:Array Nat):Bool:=
 ops.toList.zipIdx.all fun(o,i)=>
  (o.after.all fun e=> !(Region.binds .any e)|| Nat.blt e.on i)&&
  (ops.toList.zipIdx.all fun(o',j)=>
   (!((bef.getD i 0).testBit j)|| o.after.any fun e=>Region.binds .any e&&(Nat.beq e.on j|| (bef.getD e.on 0).testBit j))&&
   (Nat.beq i j|| !(xbj1 o o'))&&
   (Nat.beq i j|| (bef.getD i 0).testBit j|| (bef.getD j 0).testBit i|| (match o'.dst with|some d=>(looks ops o).all fun t=> !(Nat.beq d t)|none=>true)))
def qae:Code->Nat
 | .region id _ _=>id
 | .seq a _=>qae a
 | .block _ b=>qae b
 | .loop b=>qae b
 | _=>0
def trimS(l:List Nat):List (Nat×V)->List (Nat×V)
 | []=>[]
 | (t,v)::r=>cond (l.any (Nat.beq t)) ((t,v)::trimS l r) (trimS l r)
def renAll:List (Nat×Nat)->St->St
 | [],τ=>τ
 | (p,q)::r,τ=>renAll r (match qaj τ.heap p with|some _=>cond (Nat.ble 32 q) (rename p q τ) τ|none=>τ)
def xbup(τ:St):St:=⟨τ.slots,trimH (τ.slots.flatMap fun tv=>reach τ.heap 6 tv.2) τ.heap⟩
def qxn:Rw->Bool
 | .ints _ []=>true
 | .gen _ []=>true
 | _=>false
def virK:List (Nat×Nat×Nat×Rw)->St->St
 | [],σ=>σ
 | (p,i,q,e)::r,σ=>virK r (match qaj σ.heap p with
  | some ⟨.var l,lk⟩=>(match l[i]? with
   | some .nils=>cond (xbem σ.slots σ.heap [q]&&qxn e) ⟨σ.slots,qct (qct σ.heap q ⟨e,false⟩) p ⟨.var (l.set i (.ref q 0 0 true e.esz)),lk⟩⟩ σ
   | _=>σ)
  | _=>σ)
def head(rid:Nat)(σ:St):St:=xbup (renAll (E.ren rid) (virK (E.vir rid) ⟨trimS (E.live rid) σ.slots,σ.heap⟩))
def tx(l:Option (List Nat))(σ:St):St:=match l with
 | none=>σ
 | some l=>⟨trimS l σ.slots,trimH (List.range 32++(trimS l σ.slots).flatMap fun tv=>reach σ.heap 6 tv.2) σ.heap⟩
def kt(rid:Nat)(k:Ex->St->Option β):Ex->St->Option β:=fun ex σ=>match ex with
 | .normal=>k .normal (tx (E.xl (rid+1000)) σ)
 | e=>k e σ
def qxt:Nat->(St->(Ex->St->Option β)->Option β)->(St->St)->St->(Ex->St->Option β)->Option β
 | 0,_,_,_,_=>none
 | n+1,b,h,σ,k=>b σ fun ex σ'=>match ex with
  | .normal=>qxt n b h (h σ') k
  | e=>k e σ'
def lowV:V->Bool
 | .cl _=>true
 | .nils=>true
 | .ptr p _ _=>Nat.blt p 32
 | _=>false
def lowS:List (Nat×V)->List (Nat×V)
 | []=>[]
 | (t,v)::r=>cond (lowV v) ((t,v)::lowS r) (qw9 (lowS r) t)
def xbua:List Nat->List CV->List (Nat×V)->List (Nat×V)
 | p::ps,c::cs,s=>xbua ps cs (qct s p (.cl c))
 | _,_,s=>s
def qmj(np rid:Nat)(ps:List Nat)(b1 b2:St->(Ex->St->Option Out)->Option Out):List (List CV)->St->(Ex->St->Option Out)->Option Out
 | [],σ,k=>k .normal σ
 | x::r,σ,k=>cond (Nat.beq x.length ps.length&&ps.all fun p=>Nat.blt p np)
  (b1 ⟨xbua ps x σ.slots,σ.heap⟩ fun ex σ1=>match ex with
   | .normal=>b2 σ1 fun ex σ2=>match ex with
    | .normal=>qmj np rid ps b1 b2 r (head E rid ⟨lowS σ.slots,σ2.heap⟩) k
    | .ret=>k .ret ⟨lowS σ.slots,σ2.heap⟩
    | .exit i=>k (.exit i) ⟨lowS σ.slots,σ2.heap⟩
    | .pan _=>none
   | _=>none) none
def xbxo:V->V
 | .cl (.fn (.func g) [] [])=>.fn (.func g) [] []
 | v=>v
def lowAll:List (Nat×Nat)->St->St
 | [],τ=>τ
 | (p,q)::r,τ=>lowAll r (rename p q τ)
def xbql(l:List (Nat×Nat))(k:Ex->St->Option Out)(ex:Ex)(σ:St):Option Out:=
 let τ:=renAll (l.map fun(p,q)=>(q,p)) σ
 match ex with
 | .pan _=>none
 | _=>cond (l.all fun(_,q)=>match qaj τ.heap q with|none=>true|some _=>false) (k ex τ) none
def vacAll(names:List Nat)(σ:St):St:=names.foldl (fun τ p=>vacate p τ) σ
def yldO(x:List CV):Option Out->Option Out->Option Out
 | some f,some t=>some (.yld x f t)
 | _,_=>none
def xbhj(bef:Array Nat)(i n:Nat):Bool:=(List.range n).all fun j=>Nat.beq j i|| cond (Nat.blt j i) ((bef.getD i 0).testBit j) ((bef.getD j 0).testBit i)
noncomputable def xbea(ops:Array Oper)(d dd:Nat)(ts:List TypeId)(xs:List V)(post:List Oper)(σ:St)(k:Ex->St->Option Out):Option Out:=
 match getV σ.slots d,qor (qbp P σ.heap 6) ts xs with
 | .cl (.fn (.yield l) [] []),some cs=>cond (Nat.blt dd E.nt) (cond (Nat.beq l E.yn)
  (yldO cs (opsK P E ops post ⟨qct σ.slots dd (.cl (.bool false)),updH σ.heap (lockAll σ.heap (xs.flatMap (reach σ.heap 6)))⟩ k) (opsK P E ops post ⟨qct σ.slots dd (.cl (.bool true)),updH σ.heap (lockAll σ.heap (xs.flatMap (reach σ.heap 6)))⟩ k)) none) none
 | _,_=>none
noncomputable def xbou(ops:Array Oper)(i:Nat)(σ:St)(k:Ex->St->Option Out):Option Out:=
 match ops.toList.drop i with
 | o::post=>match o.op,o.dst,o.guard with
  | .call ⟨.value (.tmp d),xs,ts⟩,some dd,none=>opsK P E ops (ops.toList.take i) σ fun ex σ'=>match ex with
   | .normal=>xbea P E ops d dd ts.toList (xs.toList.map (opd E σ'.slots)) post σ' k
   | e=>k e σ'
  | _,_,_=>none
 | []=>none
noncomputable def xbln(ops:Array Oper)(i:Nat)(σ:St)(k:Ex->St->Option Out):Option Out:=
 match ops.toList.drop i with
 | [o,o2]=>match o.op,o.dst,o.guard with
  | .call ⟨.value (.tmp d),xs,ts⟩,some dd,none=>cond (xbhj (Region.before ops) i ops.size) (xbe0 P E ops (Region.before ops) 0 [] (ops.toList.take i) σ fun ex σ'=>match ex with
   | .normal=>xbea P E ops d dd ts.toList (xs.toList.map (opd E σ'.slots)) [o2] σ' k
   | _=>none) none
  | _,_,_=>none
 | _=>none
noncomputable def qcx(N:Nat):Code->St->(Ex->St->Option Out)->Option Out
 | .skip,σ,k=>k .normal σ
 | .region id ops draw,σ,k=>cond draw
   (cond (q9f ops (Region.before ops)&&xbem (prep E ops.toList σ).slots (prep E ops.toList σ).heap (ops.toList.flatMap (makes E))) (match E.yl id with|some i=>xbln P E ops i (prep E ops.toList σ) k|none=>xbe0 P E ops (Region.before ops) 0 [] ops.toList (prep E ops.toList σ) k) none)
   (match E.yl id with|some i=>xbou P E ops i (prep E ops.toList σ) k|none=>opsK P E ops ops.toList (prep E ops.toList σ) k)
 | .seq a b,σ,k=>qcx N a σ fun ex σ'=>match ex with
  | .normal=>match E.jn (qae b) with
   | some L=>L (head E (qae b) σ') k
   | none=>qcx N b σ' k
  | e=>k e σ'
 | .cond c t e,σ,k=>match c with
  | .tmp d=>decK σ.slots d fun b s=>match b with
   | true=>qcx N t ⟨s,σ.heap⟩ k
   | false=>match E.jn (qae e) with
    | some L=>L (head E (qae e) ⟨s,σ.heap⟩) k
    | none=>qcx N e ⟨s,σ.heap⟩ k
  | .const (.bool true)=>qcx N t σ k
  | .const (.bool false)=>qcx N e σ k
  | _=>none
 | .block id b,σ,k=>qcx N b σ fun ex σ'=>match ex with
  | .exit j=>cond (Nat.beq j id) (k .normal σ') (k (.exit j) σ')
  | e=>k e σ'
 | .loop b,σ,k=>match E.lp (qae b) with
  | some L=>L (head E (qae b) σ) k
  | none=>qxt N (qcx N b) (head E (qae b)) (head E (qae b) σ) k
 | .exit id,σ,k=>k (.exit id) (tx (E.xl (id+1)) σ)
 | .ret,σ,k=>k .ret (tx (E.xl 0) σ)
 | .rangeFunc g ps assign body,σ,k=>cond (!E.rg) none<| match xbxo (opd E σ.slots g) with
  | .fn (.func gf) [] lb=>
   let names:=dedup (qby σ.heap (List.range lb.length) 0 lb)
   match qhr σ.heap names with
   | some obs=>cond (Nat.ble 28 names.length) none (cond (E.pre gf (renL (qbc names 0) lb) (obs.map fun o=> {o with row:=qgu (qbc names 0) o.row})) (match E.sq gf (renL (qbc names 0) lb) (obs.map fun o=> {o with row:=qgu (qbc names 0) o.row}) with
    | some xs=>match E.rf (qae assign) with
     | some L=>
      let σ1:=lowAll (E.lowr (qae assign)) (vacAll names σ)
      L (head E (qae assign) ⟨lowS σ1.slots,σ1.heap⟩) xs (xbql (E.lowr (qae assign)) k)
     | none=>none
    | none=>none) none)
   | none=>none
  | _=>none
 | _,_,_=>none
def qk4:Code->Bool
 | .region _ ops draw=> !draw&&ops.toList.all fun o=>match o.op with|.defer _=>false|_=>true
 | .seq a b=>qk4 a&&qk4 b
 | .cond _ a b=>qk4 a&&qk4 b
 | .block _ b=>qk4 b
 | .loop b=>qk4 b
 | .skip|.exit _|.ret=>true
 | _=>false
def qbj(N:Nat):Code->Prop
 | .seq a b=>qbj N a/\qbj N b/\∀L,E.jn (qae b)=some L->∀(σ:St) (k:Ex->St->Option Out) (r:Out),L σ k=some r->qcx P E N b σ (kt E (qae b) k)=some r
 | .cond _ a b=>qbj N a/\qbj N b/\∀L,E.jn (qae b)=some L->∀(σ:St) (k:Ex->St->Option Out) (r:Out),L σ k=some r->qcx P E N b σ (kt E (qae b) k)=some r
 | .block _ b=>qbj N b
 | .loop b=>qbj N b/\∀L,E.lp (qae b)=some L->∀(σ:St) (k:Ex->St->Option Out) (r:Out),L σ k=some r->∃n,qxt n (qcx P E N b) (head E (qae b)) σ k=some r
 | .rangeFunc _ ps a b=>qbj N a/\qbj N b/\qk4 a=true/\qk4 b=true/\∀L,E.rf (qae a)=some L->∀(σ:St) (xs:List (List CV)) (k:Ex->St->Option Out) (r:Out),L σ xs k=some r->qmj E E.nt (qae a) ps.toList (qcx P E N a) (qcx P E N b) xs σ k=some r
 | _=>True
def slots0:Nat->List V->List (Nat×V)
 | _,[]=>[]
 | i,v::r=>(i,v)::slots0 (i+1) r
def heap0:Nat->List Obj->Heap
 | _,[]=>[]
 | i,v::r=>(i,v)::heap0 (i+1) r
def results:List ResultVar->St->List TypeId->Option (List V)
 | [],_,_=>some []
 | .tmp t::r,σ,ts=>(match results r σ ts.tail with|some l=>some (getV σ.slots t::l)|none=>none)
 | .cell a t::r,σ,ts=>(match qsa P σ.heap t (getV σ.slots a) some,results r σ ts.tail with|some v,some l=>some (v::l)|_,_=>none)
def qm1(H:Heap):List TypeId->List V->Option (List V)
 | _,[]=>some []
 | ts,v::r=>match qbp P H 6 (ts.headD 0) v,qm1 H ts.tail r with|some c,some l=>some (.cl c::l)|_,_=>none
def qi3(H:Heap)(n:Nat):List (Option Obj):=(List.range n).map (qaj H)
def finish(keep:Bool)(fn:Func)(nobj:Nat)(σ:St):Option Out:=
 match results P fn.results.toList σ fn.resultTypes.toList with
 | none=>none
 | some vs=>cond keep
  (let all:=List.range nobj++(dedup (vs.flatMap (reach σ.heap 6))).filter fun p=> !(Nat.blt p nobj)
   cond (Nat.ble all.length 32) (some (.ret (renL (qbc all 0) vs) ((all.map (qaj σ.heap)).map fun o=>o.map fun o=> {o with row:=qgu (qbc all 0) o.row}))) none)
  (cond ((vs.flatMap (reach σ.heap 6)).all fun p=> !(Nat.blt p nobj)|| (match qaj σ.heap p with|some ob=>ob.lock|none=>true)) (match qm1 P σ.heap fn.resultTypes.toList vs with
   | some l=>some (.ret l (qi3 σ.heap nobj))
   | none=>none) none)
noncomputable def qoa(N:Nat)(keep:Bool)(fn:Func)(args:List V)(objs:List Obj):Option Out:=
 match fn.body with
 | none=>none
 | some c=>qcx P E N c ⟨slots0 0 args,heap0 0 objs⟩ fun ex σ=>match ex with
  | .normal=>finish P keep fn objs.length σ
  | .ret=>finish P keep fn objs.length σ
  | .pan c=>some (.pan c (qi3 σ.heap objs.length))
  | .exit _=>none
end
def qyi:CV->Option (Nat×List CV)
 | .sli k l=>some (1,l.map (.int k))
 | .slg e l=>some (e,l.flatMap cell1)
 | .aggi _ k l=>some (1,l.map (.int k))
 | .agga _ e l=>some (e,l.flatMap cell1)
 | .agg l=>some (l.length,l)
 | _=>none
def uni:CV->Prop
 | .slg e l=> ∀c∈l,(cell1 c).length=e
 | .agga n e l=>l.length=n/\∀c∈l,(cell1 c).length=e
 | .aggi n _ l=>l.length=n
 | _=>True
def anyP:Nat->Value->Prop
 | 0,v=>v=.nilIface\/∃t x,v=.iface t x
 | 1,v=> ∃m,v=.int .i64 m
 | _,v=>oneC v=true
inductive CRep (w:World) (Im:Nat->Prop):CV->Value->Prop
 | int (k:IntKind) (n:Int):CRep w Im (.int k n) (.int k n)
 | bool (b:Bool):CRep w Im (.bool b) (.bool b)
 | str (s:ByteArray):CRep w Im (.str s) (.string s)
 | nili:CRep w Im .nili .nilIface
 | nilp:CRep w Im .nilp (.pointer none)
 | nilfn:CRep w Im .nilfn .nilFunc
 | sli (k:IntKind) (l:List Int) (a:Option Addr) (len cap:Nat):l.length=len->len<=cap->
   (∀(i:Nat) (n:Int),l[i]? =some n->∃ad,a=some ad/\Im ad.block/\w.cell? (ad.add i)=some (.int k n))->CRep w Im (.sli k l) (.slice a len cap)
 | slg (e:Nat) (l:List CV) (a:Option Addr) (len cap:Nat) (f:Nat->Value):(∀c∈l,(cell1 c).length=e)->l.length=len->len<=cap->
   (∀(j:Nat) (c:CV),(l.flatMap cell1)[j]? =some c->∃ad,a=some ad/\Im ad.block/\w.cell? (ad.add j)=some (f j))->(∀(j:Nat) (c:CV),(l.flatMap cell1)[j]? =some c->oneC (f j)=true)->
   (∀(j:Nat) (c:CV),(l.flatMap cell1)[j]? =some c->CRep w Im c (f j))->CRep w Im (.slg e l) (.slice a len cap)
 | agg (l:List CV) (vs:List Value):vs.length=l.length->(∀v∈vs,oneC v=true)->(∀(j:Nat) (c:CV) (v:Value),l[j]? =some c->vs[j]? =some v->CRep w Im c v)->CRep w Im (.agg l) (.agg vs.toArray)
 | aggi (n:Nat) (k:IntKind) (l:List Int):l.length=n->CRep w Im (.aggi n k l) (.agg (l.map (.int k)).toArray)
 | agga (n e:Nat) (l:List CV) (vs:List Value):l.length=n->(∀c∈l,(cell1 c).length=e)->vs.length=(l.flatMap cell1).length->(∀v∈vs,oneC v=true)->
   (∀(j:Nat) (c:CV) (v:Value),(l.flatMap cell1)[j]? =some c->vs[j]? =some v->CRep w Im c v)->CRep w Im (.agga n e l) (.agg vs.toArray)
 | iface (t:TypeId) (c:CV) (v:Value):CRep w Im c v->CRep w Im (.iface t c) (.iface t v)
 | fn (f:Fn) (a b:List CV) (va vb:List Value):va.length=a.length->vb.length=b.length->(∀(j:Nat) (c:CV) (v:Value),a[j]? =some c->va[j]? =some v->CRep w Im c v)->
   (∀(j:Nat) (c:CV) (v:Value),b[j]? =some c->vb[j]? =some v->CRep w Im c v)->CRep w Im (.fn f a b) (.func f va.toArray vb.toArray)
 | vp (r:CV) (i o e:Nat) (cs:List CV) (b off:Nat) (f:Nat->Value):qyi r=some (e,cs)->uni r->Im b->
   (∀(j:Nat) (c:CV),cs[j]? =some c->w.cell? ⟨b,off+j,none⟩=some (f j))->(∀(j:Nat) (c:CV),cs[j]? =some c->oneC (f j)=true)->(∀(j:Nat) (c:CV),cs[j]? =some c->CRep w Im c (f j))->
   CRep w Im (.vp r i o) (.pointer (some ⟨b,off+i*e+o,none⟩))
 | any (p:Nat) (v:Value):anyP p v->CRep w Im (.any p) v
 | is (c:CV) (v:Value):oneC v=true->CRep w Im c v->CRep w Im (.is c v) v
def Keep(Im:Nat->Prop)(w w':World):Prop:= ∀b,Im b->w'.heap[b]? =w.heap[b]?
theorem qgw{w w':World}{a:Addr}(h:w'.heap[a.block]? =w.heap[a.block]?):w'.cell? a=w.cell? a:=by unfold World.cell?;rw[h]
theorem qm4{w w':World}{a:Addr}(h:w'.heap[a.block]? =w.heap[a.block]?):w'.frozen? a=w.frozen? a:=by unfold World.frozen?;rw[h]
theorem qec(a:Addr)(n:Nat):(a.add n).block=a.block:=by unfold Addr.add;split<;>rfl
theorem CRep.keep{w w':World}{Im Im':Nat->Prop}{c:CV}{v:Value}(h:CRep w Im c v)(hk:Keep Im w w')(hm: ∀b,Im b->Im' b):CRep w' Im' c v:=by
 induction h with
 | int k n=>exact .int k n
 | bool b=>exact .bool b
 | str s=>exact .str s
 | nili=>exact .nili
 | nilp=>exact .nilp
 | nilfn=>exact .nilfn
 | sli k l a len cap h1 h2 h3=>
  refine .sli k l a len cap h1 h2 fun i n hi=> ?_;obtain⟨ad,e,hb,hc⟩:=h3 i n hi;exact⟨ad,e,hm _ hb,(qgw (a:=ad.add _) (by rw[qec];exact hk _ hb)).trans hc⟩
 | slg e l a len cap f h1 h2 h3 h4 h6 h5 ih=>
  refine .slg e l a len cap f h1 h2 h3 (fun j c hj=> ?_) h6 ih;obtain⟨ad,e,hb,hc⟩:=h4 j c hj;exact⟨ad,e,hm _ hb,(qgw (a:=ad.add _) (by rw[qec];exact hk _ hb)).trans hc⟩
 | agg l vs h1 h2 _ ih=>exact .agg l vs h1 h2 ih
 | aggi n k l h=>exact .aggi n k l h
 | agga n e l vs h1 h2 h3 h4 _ ih=>exact .agga n e l vs h1 h2 h3 h4 ih
 | iface t c v _ ih=>exact .iface t c v ih
 | fn f a b va vb h1 h2 _ _ ih1 ih2=>exact .fn f a b va vb h1 h2 ih1 ih2
 | vp r i o e cs b off f h1 h2 h3 h4 h5 _ ih=>
  exact .vp r i o e cs b off f h1 h2 (hm _ h3) (fun j c hj=>by rw[qgw (a:=⟨b,off+j,none⟩) (hk _ h3)];exact h4 j c hj) h5 ih
 | any p v h=>exact .any p v h
 | is c v h _ ih=>exact .is c v h ih
structure Sh where
 len:Nat
 esz:Nat
 arr:Bool
def q6u:Rw->Bool
 | .arri .. | .arrg .. =>true
 | _=>false
def shp(ob:Obj):Sh:=⟨ob.row.len,ob.row.esz,q6u ob.row⟩
abbrev Loc:=Option (Nat×Nat×Nat)
inductive VRep (w:World) (Im:Nat->Prop) (ρ:Nat->Loc) (S:Nat->Option Sh):V->Value->Prop
 | undef (v:Value):VRep w Im ρ S .undef v
 | cl (c:CV) (v:Value):CRep w Im c v->VRep w Im ρ S (.cl c) v
 | nils:VRep w Im ρ S .nils (.slice none 0 0)
 | agg (l:List V) (vs:List Value):vs.length=l.length->(∀v∈vs,oneC v=true)->(∀(j:Nat) (c:V) (v:Value),l[j]? =some c->vs[j]? =some v->VRep w Im ρ S c v)->VRep w Im ρ S (.agg l) (.agg vs.toArray)
 | tup (l:List V) (vs:List Value):vs.length=l.length->(∀(j:Nat) (c:V) (v:Value),l[j]? =some c->vs[j]? =some v->VRep w Im ρ S c v)->VRep w Im ρ S (.tup l) (.tuple vs.toArray)
 | iface (t:TypeId) (c:V) (v:Value):VRep w Im ρ S c v->VRep w Im ρ S (.iface t c) (.iface t v)
 | fn (f:Fn) (a b:List V) (va vb:List Value):va.length=a.length->vb.length=b.length->(∀(j:Nat) (c:V) (v:Value),a[j]? =some c->va[j]? =some v->VRep w Im ρ S c v)->
   (∀(j:Nat) (c:V) (v:Value),b[j]? =some c->vb[j]? =some v->VRep w Im ρ S c v)->VRep w Im ρ S (.fn f a b) (.func f va.toArray vb.toArray)
 | ptrN (p i o:Nat) (ad:Addr):S p=none->VRep w Im ρ S (.ptr p i o) (.pointer (some ad))
 | ptr (p i o:Nat) (s:Sh) (b base lim:Nat):S p=some s->ρ p=some (b,base,lim)->i<s.len->
   VRep w Im ρ S (.ptr p i o) (.pointer (some ⟨b,base+i*s.esz+o,none⟩))
 | aptrN (p n e:Nat) (ad:Addr):S p=none->VRep w Im ρ S (.aptr p n e) (.pointer (some ad))
 | aptr (p n e b base lim:Nat):S p=some ⟨n,e,true⟩->ρ p=some (b,base,lim)->VRep w Im ρ S (.aptr p n e) (.pointer (some ⟨b,base,none⟩))
 | refN (p o len:Nat) (tip:Bool) (e:Nat) (a:Option Addr) (cap:Nat):S p=none->len<=cap->(len≠0->a.isSome=true)->VRep w Im ρ S (.ref p o len tip e) (.slice a len cap)
 | refV (p:Nat) (s:Sh) (tip:Bool) (e:Nat):S p=some s->ρ p=none->s.len=0->s.esz=e->VRep w Im ρ S (.ref p 0 0 tip e) (.slice none 0 0)
 | ref (p o len:Nat) (tip:Bool) (e:Nat) (s:Sh) (b base lim:Nat) (ad:Addr) (cap:Nat):S p=some s->ρ p=some (b,base,lim)->s.esz=e->len<=cap->
   o+len<=s.len->(tip=true->o+len=s.len)->(cap≠0->ad=⟨b,base+o*e,none⟩)->(o+cap)*e<=lim->
   VRep w Im ρ S (.ref p o len tip e) (.slice (some ad) len cap)
theorem getElem?_of_length{α β:Type}{l:List α}{vs:List β}(h:vs.length=l.length){j:Nat}{c:α}(hj:l[j]? =some c): ∃v,vs[j]? =some v:=by have:j<l.length:=(zad.1 hj).1;exact⟨vs[j]'(by omega),zae (by omega)⟩
theorem qhj(f:Nat->Nat): ∀(l:List V) (j:Nat),(renL f l)[j]? =(l[j]?).map (renV f)
 | [],j=>by simp[renL]
 | v::r,0=>by simp[renL]
 | v::r,j+1=>by simp[renL,qhj f r j]
theorem qc2(f:Nat->Nat): ∀l:List V,(renL f l).length=l.length
 | []=>rfl
 | v::r=>by simp[renL,qc2 f r]
theorem qmb{p:Nat}: ∀ {l:List V} {j:Nat} {v:V},l[j]? =some v->qdj p v=true->qmq p l=true
 | [],j,v,h,_=>by simp at h
 | u::r,0,v,h,hm=>by simp at h;subst h;simp[qmq,hm]
 | u::r,j+1,v,h,hm=>by simp at h;simp[qmq,qmb h hm]
theorem VRep.ren{w w':World}{Im Im':Nat->Prop}{ρ ρ':Nat->Loc}{S S':Nat->Option Sh}{f:Nat->Nat}{v:V}{x:Value}(h:VRep w Im ρ S v x)(hk:Keep Im w w')(hm: ∀b,Im b->Im' b)(hf: ∀q,qdj q v=true->S' (f q)=none\/(S' (f q)=S q/\ρ' (f q)=ρ q)):VRep w' Im' ρ' S' (renV f v) x:=by
 induction h with
 | undef v=>simp only[renV];exact .undef v
 | cl c v h=>simp only[renV];exact .cl c v (h.keep hk hm)
 | nils=>simp only[renV];exact .nils
 | agg l vs h1 h3 h2 ih=>
  simp only[renV];refine .agg _ vs (by rw[qc2];exact h1) h3 fun j c v hj hv=> ?_;rw[qhj] at hj
  cases hl:l[j]? with
  | none=>simp[hl] at hj
  | some u=>simp[hl] at hj;subst hj;exact ih j u v hl hv fun q hq=>hf q (by simp[qdj,qmb hl hq])
 | tup l vs h1 h2 ih=>
  simp only[renV];refine .tup _ vs (by rw[qc2];exact h1) fun j c v hj hv=> ?_;rw[qhj] at hj
  cases hl:l[j]? with
  | none=>simp[hl] at hj
  | some u=>simp[hl] at hj;subst hj;exact ih j u v hl hv fun q hq=>hf q (by simp[qdj,qmb hl hq])
 | iface t c v _ ih=>simp only[renV];exact .iface t _ v (ih fun q hq=>hf q (by simp[qdj,hq]))
 | fn g a b va vb h1 h2 h3 h4 ih1 ih2=>
  simp only[renV];refine .fn g _ _ va vb (by rw[qc2];exact h1) (by rw[qc2];exact h2) (fun j c v hj hv=> ?_) (fun j c v hj hv=> ?_)
  ·rw[qhj] at hj
   cases hl:a[j]? with
   | none=>simp[hl] at hj
   | some u=>simp[hl] at hj;subst hj;exact ih1 j u v hl hv fun q hq=>hf q (by simp[qdj,qmb hl hq])
  ·rw[qhj] at hj
   cases hl:b[j]? with
   | none=>simp[hl] at hj
   | some u=>simp[hl] at hj;subst hj;exact ih2 j u v hl hv fun q hq=>hf q (by simp[qdj,qmb hl hq])
 | ptrN p i o v h=>
  simp only[renV];rcases hf p (by simp[qdj]) with e|⟨e,_⟩
  ·exact .ptrN _ _ _ v e
  ·exact .ptrN _ _ _ v (e.trans h)
 | ptr p i o s b base lim h1 h2 h3=>
  simp only[renV];rcases hf p (by simp[qdj]) with e|⟨e,e'⟩
  ·exact .ptrN _ _ _ _ e
  ·exact .ptr _ _ _ s b base lim (e.trans h1) (e'.trans h2) h3
 | aptrN p n e v h=>
  simp only[renV];rcases hf p (by simp[qdj]) with e|⟨e,_⟩
  ·exact .aptrN _ _ _ v e
  ·exact .aptrN _ _ _ v (e.trans h)
 | aptr p n e b base lim h1 h2=>
  simp only[renV];rcases hf p (by simp[qdj]) with e|⟨e,e'⟩
  ·exact .aptrN _ _ _ _ e
  ·exact .aptr _ _ _ b base lim (e.trans h1) (e'.trans h2)
 | refN p o len tip e a cap h hl ha=>
  simp only[renV];rcases hf p (by simp[qdj]) with e|⟨e,_⟩
  ·exact .refN _ _ _ _ _ _ _ e hl ha
  ·exact .refN _ _ _ _ _ _ _ (e.trans h) hl ha
 | refV p s tip e h1 h2 h3 h4=>
  simp only[renV];rcases hf p (by simp[qdj]) with e|⟨e,e'⟩
  ·exact .refN _ _ _ _ _ _ _ e (zar _) (fun h=>absurd rfl h)
  ·exact .refV _ s _ _ (e.trans h1) (e'.trans h2) h3 h4
 | ref p o len tip e s b base lim ad cap h1 h2 h3 h4 h5 h6 h7 h8=>
  simp only[renV];rcases hf p (by simp[qdj]) with e|⟨e,e'⟩
  ·exact .refN _ _ _ _ _ _ _ e h4 (fun _=>rfl)
  ·exact .ref _ _ _ _ _ s b base lim ad cap (e.trans h1) (e'.trans h2) h3 h4 h5 h6 h7 h8
mutual
theorem qkm: ∀v:V,renV (fun p=>p) v=v
 | .undef=>rfl
 | .cl c=>rfl
 | .nils=>rfl
 | .agg l=>by simp[renV,qyg l]
 | .tup l=>by simp[renV,qyg l]
 | .iface t v=>by simp[renV,qkm v]
 | .fn g a b=>by simp[renV,qyg a,qyg b]
 | .ptr p i o=>rfl
 | .aptr p n e=>rfl
 | .ref p o len tip e=>rfl
theorem qyg: ∀l:List V,renL (fun p=>p) l=l
 | []=>rfl
 | v::r=>by simp[renL,qkm v,qyg r]
end
theorem VRep.congr{w w':World}{Im Im':Nat->Prop}{ρ ρ':Nat->Loc}{S S':Nat->Option Sh}{v:V}{x:Value}(h:VRep w Im ρ S v x)(hk:Keep Im w w')(hm: ∀b,Im b->Im' b)(hf: ∀q,qdj q v=true->S' q=none\/(S' q=S q/\ρ' q=ρ q)):VRep w' Im' ρ' S' v x:=by have:=h.ren (f:=fun p=>p) hk hm hf;rwa [qkm] at this
def qaf:Rw->List V
 | .ints k l=>l.map fun n=>.cl (.int k n)
 | .arri _ k l=>l.map fun n=>.cl (.int k n)
 | .gen _ l=>(l.flatMap cell1).map .cl
 | .arrg _ _ l=>(l.flatMap cell1).map .cl
 | .var l=>l
def okR:Rw->Prop
 | .ints _ _=>True
 | .arri n _ l=>l.length=n
 | .gen e l=> ∀c∈l,(cell1 c).length=e
 | .arrg n e l=>l.length=n/\∀c∈l,(cell1 c).length=e
 | .var _=>True
def growing:Rw->Bool
 | .ints .. | .gen .. =>true
 | _=>false
def ORep(w:World)(Im:Nat->Prop)(ρ:Nat->Loc)(S:Nat->Option Sh)(r:Rw):Loc->Prop
 | none=>growing r=true/\r.len=0/\okR r
 | some (b,base,lim)=>okR r/\b<w.heap.size/\(qaf r).length<=lim/\
   (∀i,i<lim->(w.cell? ⟨b,base+i,none⟩).isSome=true/\w.frozen? ⟨b,base+i,none⟩=false)/\
   ∀j c,(qaf r)[j]? =some c->∃v,w.cell? ⟨b,base+j,none⟩=some v/\oneC v=true/\VRep w Im ρ S c v
def shOf(H:Heap)(p:Nat):Option Sh:=(qaj H p).map shp
structure Gam (B:Nat) (bl I0:Nat->Prop) (w:World) (Im:Nat->Prop) (ρ:Nat->Loc) (H:Heap):Prop where
 im: ∀b,Im b->b<w.heap.size
 i0: ∀b,I0 b->Im b
 ob: ∀p o,qaj H p=some o->ORep w Im ρ (shOf H) o.row (ρ p)
 dj: ∀p q o o' b x y x' y',qaj H p=some o->qaj H q=some o'->ρ p=some (b,x,y)->ρ q=some (b,x',y')->p≠q->o.lock=true/\o'.lock=true
 lk: ∀p o b x y,qaj H p=some o->ρ p=some (b,x,y)->b<w.heap.size/\(o.lock=true->Im b)/\(o.lock=false-> ¬Im b/\(bl b\/B<=b))
 imo: ∀b,Im b->I0 b\/bl b\/B<=b
structure Fr (w0:World) (bl:Nat->Prop) (w:World):Prop where
 os:w.os=w0.os
 tape:w.tape=w0.tape
 output:w.output=w0.output
 size:w0.heap.size<=w.heap.size
 block: ∀b,b<w0.heap.size-> ¬bl b->w.heap[b]? =w0.heap[b]?
theorem Fr.refl(w:World)(bl:Nat->Prop):Fr w bl w:=⟨rfl,rfl,rfl,zar _,fun _ _ _=>rfl⟩
theorem qag{a b:Nat}:Nat.beq a b=true↔a=b:=⟨Nat.eq_of_beq_eq_true,fun h=>by subst h;exact zbk a⟩
theorem qau{α:Type}(n:Nat)(v:α)(q:Nat): ∀l:List (Nat×α),qaj (qct l n v) q=if q=n then some v else qaj l q
 | []=>by
  simp only[qct,qaj];by_cases h:q=n
  ·subst h;simp[zbk]
  ·have:Nat.beq n q=false:=by rw[zau];intro h';exact h (qag.1 h').symm
   simp[this,h]
 | (k,u)::r=>by
  simp only[qct]
  cases hk:Nat.beq k n with
  | true=>
   have:=qag.1 hk;subst this;simp only[cond_true,qaj];by_cases h:q=k
   ·subst h;simp[zbk]
   ·have:Nat.beq k q=false:=by rw[zau];intro h';exact h (qag.1 h').symm
    simp[this,h]
  | false=>
   have hkn:k≠n:=fun e=>by rw[e,zbk] at hk;cases hk
   simp only[cond_false]
   cases Nat.blt n k with
   | true=>
    simp only[cond_true,qaj];by_cases h:q=n
    ·subst h;simp[zbk]
    ·have:Nat.beq n q=false:=by rw[zau];intro h';exact h (qag.1 h').symm
     simp[this,h]
   | false=>
    simp only[cond_false,qaj,qau n v q r]
    cases hq:Nat.beq k q with
    | true=>
     have:=qag.1 hq;subst this;simp[hkn]
    | false=>simp
theorem qb4{α:Type}(n:Nat)(q:Nat): ∀l:List (Nat×α),qaj (qw9 l n) q=if q=n then none else qaj l q
 | []=>by simp[qw9,qaj]
 | (k,u)::r=>by
  simp only[qw9]
  cases hk:Nat.beq k n with
  | true=>
   have:=qag.1 hk;subst this;simp only[cond_true,qb4 k q r,qaj];by_cases h:q=k
   ·simp[h]
   ·have:Nat.beq k q=false:=by rw[zau];intro h';exact h (qag.1 h').symm
    simp[this,h]
  | false=>
   have hkn:k≠n:=fun e=>by rw[e,zbk] at hk;cases hk
   simp only[cond_false,qaj,qb4 n q r]
   cases hq:Nat.beq k q with
   | true=>
    have:=qag.1 hq;subst this;simp[hkn]
   | false=>simp
theorem qdx(s:List (Nat×V))(d:Option Tmp)(v:V)(t:Nat):getV (setD s d v) t=if d=some t then v else getV s t:=by
 cases d with
 | none=>simp[setD]
 | some d=>
  have key:getV (setD s (some d) v) t=if t=d then v else getV s t:=by
   by_cases h:t=d
   ·cases v<;>simp[setD,getV,qb4,qau,h]
   ·cases v<;>simp[setD,getV,qb4,qau,h]
  rw[key];by_cases h:t=d
  ·simp[h]
  ·simp[h,Ne.symm h]
structure Base where
 w:World
 an:Nat->Option (Sh×Loc)
 df:List Deferred
def mark(D:Nat):Deferred:= {target:=.collected D,args:= #[]}
def Held(E:Env)(df:List Deferred)(B:Nat)(a:Act)(w:World)(Im:Nat->Prop):Prop:= ∃Ds:List Nat,a.defers=Ds.map mark++df/\Ds.Nodup/\(∀D∈Ds,B<=D/\Im D/\w.heap[D]? =some (.deferred (some [])))/\(E.rg=false->Ds=[])
theorem Held.keep{E:Env}{df:List Deferred}{B:Nat}{a:Act}{w w':World}{Im Im':Nat->Prop}(h:Held E df B a w Im)(hk:Keep Im w w')(hm: ∀b,Im b->Im' b):Held E df B a w' Im':=
 let ⟨Ds,h1,h0,h2,h3⟩:=h;⟨Ds,h1,h0,fun D hD=>⟨(h2 D hD).1,hm _ (h2 D hD).2.1,(hk D (h2 D hD).2.1).trans (h2 D hD).2.2⟩,h3⟩
theorem Held.nil{E:Env}{df:List Deferred}{B B':Nat}{a a':Act}{w w':World}{Im Im':Nat->Prop}(h:Held E df B a w Im)(ha:a.defers=[])(ha':a'.defers=[]):Held E df B' a' w' Im':=by obtain⟨Ds,h1,_⟩:=h;rw[ha] at h1;have h2:Ds.map mark=[]/\df=[]:=List.append_eq_nil_iff.1 h1.symm;exact⟨[],by rw[ha',h2.2];rfl,by simp,by simp,fun _=>rfl⟩
structure Inv (E:Env) (w0:Base) (bl I0:Nat->Prop) (s:List (Nat×V)) (H:Heap) (a:Act) (w:World) (Im:Nat->Prop) (ρ:Nat->Loc):Prop where
 gam:Gam w0.w.heap.size bl I0 w Im ρ H
 fr:Fr w0.w bl w
 sl: ∀t,VRep w Im ρ (shOf H) (getV s t) (a.tmps.getD t undef)
 nt:a.tmps.size=E.nt
 df:Held E w0.df w0.w.heap.size a w Im
 gl: ∀g c,E.glob g=some c->CRep w Im (.vp c 0 0) (.pointer (some ⟨g,0,none⟩))
 st: ∀j o,j<32->qaj H j=some o->w0.an j=some (shp o,ρ j)
theorem Inv.opd{E:Env}{w0:Base}{bl I0:Nat->Prop}{s:List (Nat×V)}{H:Heap}{a:Act}{w:World}{Im:Nat->Prop}{ρ:Nat->Loc}(h:Inv E w0 bl I0 s H a w Im ρ)(x:Operand):VRep w Im ρ (shOf H) (opd E s x) (a.eval x):=by
 cases x with
 | tmp t=>exact h.sl t
 | const v=>
  show VRep w Im ρ (shOf H) (qnv v) v;unfold qnv;split<;>first|exact .cl _ _ (by constructor)|exact .nils|exact .undef _
 | func f=>exact .cl _ _ (.fn (.func f) [] [] [] [] rfl rfl (by simp) (by simp))
 | global g=>
  show VRep w Im ρ (shOf H) (match E.glob g with|some c=>.cl (.vp c 0 0)|none=>.undef) _
  cases hg:E.glob g with
  | none=>exact .undef _
  | some c=>exact .cl _ _ (h.gl g c hg)
theorem Inv.world{E:Env}{w0:Base}{bl I0:Nat->Prop}{s:List (Nat×V)}{H:Heap}{a:Act}{w w':World}{Im:Nat->Prop}{ρ:Nat->Loc}(h:Inv E w0 bl I0 s H a w Im ρ)(hh:w'.heap=w.heap)(h1:w'.os=w.os)(h2:w'.tape=w.tape)(h3:w'.output=w.output):Inv E w0 bl I0 s H a w' Im ρ:=by
 have hk:Keep Im w w':=fun b _=>by rw[hh]
 have hv: ∀v x,VRep w Im ρ (shOf H) v x->VRep w' Im ρ (shOf H) v x:=fun v x hx=>hx.congr hk (fun _ h=>h) (fun q _=>.inr ⟨rfl,rfl⟩);refine⟨⟨fun b hb=>by rw[hh];exact h.gam.im b hb,h.gam.i0,fun p o hp=> ?_,h.gam.dj,fun p o b x y hp hr=>by rw[hh];exact h.gam.lk p o b x y hp hr,h.gam.imo⟩,
  ⟨h1.trans h.fr.os,h2.trans h.fr.tape,h3.trans h.fr.output,by rw[hh];exact h.fr.size,fun b hb hn=>by rw[hh];exact h.fr.block b hb hn⟩,
  fun t=>hv _ _ (h.sl t),h.nt,h.df.keep hk (fun _ h=>h),fun g c hg=>(h.gl g c hg).keep hk (fun _ h=>h),h.st⟩
 have:=h.gam.ob p o hp
 cases hr:ρ p with
 | none=>rw[hr] at this;exact this
 | some l=>
  rw[hr] at this;obtain⟨b,base,lim⟩:=l;obtain⟨h1,h2,h3,h4,h5⟩:=this;exact⟨h1,by rw[hh];exact h2,h3,fun i hi=>⟨by rw[qgw (w:=w) (by rw[hh])];exact(h4 i hi).1,by rw[qm4 (w:=w) (by rw[hh])];exact(h4 i hi).2⟩,
   fun j c hj=>let ⟨v,hv1,ho,hv2⟩:=h5 j c hj;⟨v,by rw[qgw (w:=w) (by rw[hh])];exact hv1,ho,hv _ _ hv2⟩⟩
theorem qda(H:Heap)(p:Nat)(o:Obj)(q:Nat):shOf (qct H p o) q=if q=p then some (shp o) else shOf H q:=by unfold shOf;rw[qau];split<;>rfl
theorem xbof(H:Heap)(p q:Nat):shOf (qw9 H p) q=if q=p then none else shOf H q:=by unfold shOf;rw[qb4];split<;>rfl
structure Free (p:Nat) (s:List (Nat×V)) (H:Heap):Prop where
 big:32<=p
 none:qaj H p=none
 sl: ∀t,qdj p (getV s t)=false
 ob: ∀q o,qaj H q=some o->∀l,o.row=.var l->qmq p l=false
theorem qsy{p:Nat}: ∀ {s:List (Nat×V)},q32 p s=true->∀t,qdj p (getV s t)=false
 | [],_,t=>rfl
 | (k,v)::r,h,t=>by
  simp only[q32,zab,zao] at h;simp only[getV,qaj]
  cases Nat.beq k t with
  | true=>exact h.1
  | false=>exact qsy (s:=r) h.2 t
theorem qnu{p:Nat}: ∀ {H:Heap},q31 p H=true->qaj H p=none/\∀q o,qaj H q=some o->∀l,o.row=.var l->qmq p l=false
 | [],_=>⟨rfl,fun q o h=>by simp[qaj] at h⟩
 | (k,ob)::r,h=>by
  simp only[q31,zab,zao] at h;obtain⟨⟨h1,h2⟩,h3⟩:=h;obtain⟨i1,i2⟩:=qnu (H:=r) h3;refine⟨by simp only[qaj,h1,cond_false];exact i1,fun q o hq l hl=> ?_⟩;simp only[qaj] at hq
  cases hb:Nat.beq k q with
  | true=>
   rw[hb] at hq;simp only[cond_true,zaa] at hq;subst hq;rw[hl] at h2;simpa using h2
  | false=>
   rw[hb] at hq;exact i2 q o hq l hl
theorem qgc{s:List (Nat×V)}{H:Heap}: ∀ {l:List Nat},xbem s H l=true->∀p∈l,Free p s H
 | [],_,p,hp=>by simp at hp
 | q::r,h,p,hp=>by
  simp only[xbem,zab] at h;rcases zas.1 hp with rfl|hp
  ·exact⟨by simpa using h.1.1.1,(qnu h.1.2).1,qsy h.1.1.2,(qnu h.1.2).2⟩
  ·exact qgc (l:=r) h.2 p hp
theorem q3y{p:Nat}: ∀ {l:List V},(∀v∈l,qdj p v=false)->qmq p l=false
 | [],_=>rfl
 | v::r,h=>by simp[qmq,h v (by simp),q3y (l:=r) fun u hu=>h u (by simp[hu])]
theorem qsw{p:Nat}: ∀ {l:List V},qmq p l=false->∀v∈l,qdj p v=false
 | [],_,v,hv=>by simp at hv
 | u::r,h,v,hv=>by
  simp only[qmq,zcm] at h;rcases zas.1 hv with rfl|hv
  ·exact h.1
  ·exact qsw h.2 v hv
theorem qcz{p:Nat}{r:Rw}(h: ∀l,r=.var l->qmq p l=false){j:Nat}{c:V}(hj:(qaf r)[j]? =some c):qdj p c=false:=by
 cases r with
 | var l=>exact qsw (h l rfl) c (zac hj)
 | ints k l=>have:=zac hj;simp[qaf] at this;obtain⟨n,_,rfl⟩:=this;rfl
 | arri n k l=>have:=zac hj;simp[qaf] at this;obtain⟨n,_,rfl⟩:=this;rfl
 | gen e l=>have:=zac hj;simp[qaf] at this;obtain⟨n,_,rfl⟩:=this;rfl
 | arrg n e l=>have:=zac hj;simp[qaf] at this;obtain⟨n,_,rfl⟩:=this;rfl
theorem ORep.congr{w w':World}{Im Im':Nat->Prop}{ρ ρ':Nat->Loc}{S S':Nat->Option Sh}{r:Rw}{l:Loc}(h:ORep w Im ρ S r l)(hb: ∀b x y,l=some (b,x,y)->w'.heap[b]? =w.heap[b]?)(hv: ∀(j:Nat) (c:V) (x:Value),(qaf r)[j]? =some c->VRep w Im ρ S c x->VRep w' Im' ρ' S' c x):ORep w' Im' ρ' S' r l:=by
 cases l with
 | none=>exact h
 | some l=>
  obtain⟨b,base,lim⟩:=l;obtain⟨h1,h2,h3,h4,h5⟩:=h;have hb':=hb b base lim rfl;have hlt:b<w'.heap.size:=by
   rcases zbo b w'.heap.size with h'| h'
   ·exact h'
   ·rw[zcp h',zbe h2] at hb';cases hb'
  exact⟨h1,hlt,h3,fun i hi=>⟨by rw[qgw (w:=w) hb'];exact(h4 i hi).1,by rw[qm4 (w:=w) hb'];exact(h4 i hi).2⟩,
   fun j c hj=>let ⟨v,x,ho,y⟩:=h5 j c hj;⟨v,by rw[qgw (w:=w) hb'];exact x,ho,hv j c v hj y⟩⟩
theorem ORep.lt{w:World}{Im:Nat->Prop}{ρ:Nat->Loc}{S:Nat->Option Sh}{r:Rw}{b x y:Nat}(h:ORep w Im ρ S r (some (b,x,y))):b<w.heap.size:=by exact h.2.1
def put(ρ:Nat->Loc)(p:Nat)(l:Loc):Nat->Loc:=fun q=>if q=p then l else ρ q
theorem Inv.alloc{E:Env}{w0:Base}{bl I0:Nat->Prop}{s:List (Nat×V)}{H:Heap}{a:Act}{w w':World}{Im:Nat->Prop}{ρ:Nat->Loc}(h:Inv E w0 bl I0 s H a w Im ρ){p:Nat}(hf:Free p s H){r:Rw}{cs:Array Value}{el:TypeId}{fr:Nat×Nat}(hh:w'.heap=w.heap.push (.cells cs el fr))(h1:w'.os=w.os)(h2:w'.tape=w.tape)(h3:w'.output=w.output)(hok:okR r)(hlen:(qaf r).length<=cs.size)(hfr: ∀i,i<cs.size-> ¬(fr.1<=i/\i<fr.2))(hm: ∀l,r=.var l->qmq p l=false)(hc: ∀(j:Nat) (c:V),(qaf r)[j]? =some c->∃v:Value,cs[j]? =some v/\oneC v=true/\VRep w Im ρ (shOf H) c v):
  Inv E w0 bl I0 s (qct H p ⟨r,false⟩) a w' Im (put ρ p (some (w.heap.size,0,cs.size))):=by
 have hold: ∀b,b<w.heap.size->w'.heap[b]? =w.heap[b]? :=fun b hb=>by rw[hh,zdk,if_neg (by omega)]
 have hk:Keep Im w w':=fun b hb=>hold b (h.gam.im b hb);have hv: ∀v x,qdj p v=false->VRep w Im ρ (shOf H) v x->VRep w' Im (put ρ p (some (w.heap.size,0,cs.size))) (shOf (qct H p ⟨r,false⟩)) v x:=fun v x hn hx=>
  hx.congr hk (fun _ h=>h) fun q hq=>.inr ⟨by rw[qda,if_neg (fun e=>by subst e;rw[hn] at hq;cases hq)],by unfold put;rw[if_neg (fun e=>by subst e;rw[hn] at hq;cases hq)]⟩
 refine⟨⟨fun b hb=>by rw[hh,zdl];have:=h.gam.im b hb;omega,h.gam.i0,fun q o hq=> ?_,fun q q' o o' b x y x' y' hq hq' hr hr' hne=> ?_,fun q o b x y hq hr=> ?_,h.gam.imo⟩,
  ⟨h1.trans h.fr.os,h2.trans h.fr.tape,h3.trans h.fr.output,by rw[hh,zdl];have:=h.fr.size;omega,
   fun b hb hn=>by rw[hold b (by have:=h.fr.size;omega)];exact h.fr.block b hb hn⟩,
  fun t=>hv _ _ (hf.sl t) (h.sl t),h.nt,h.df.keep hk (fun _ h=>h),fun g c hg=>(h.gl g c hg).keep hk (fun _ h=>h),fun j o hj hg=>by
   rw[qau] at hg;have hb:=hf.big;rw[if_neg (by omega)] at hg;unfold put;rw[if_neg (by omega)];exact h.st j o hj hg⟩
 ·rw[qau] at hq;by_cases e:q=p
  ·subst e;simp only[if_true,zaa] at hq;subst hq;unfold put;rw[if_pos rfl];have hb:w'.heap[w.heap.size]? =some (.cells cs el fr):=by rw[hh];simp
   refine⟨hok,by rw[hh];simp,hlen,fun i hi=>⟨by simp[World.cell?,hb,hi], ?_⟩,fun j c hj=> ?_⟩
   ·have:=hfr i hi;simp[World.frozen?,hb] at this ⊢;exact this
   ·obtain⟨v,a,ho,b⟩:=hc j c hj;exact⟨v,by simpa [World.cell?,hb] using a,ho,hv _ _ (qcz hm hj) b⟩
  ·rw[if_neg e] at hq;unfold put;rw[if_neg e];exact ORep.congr (h.gam.ob q o hq) (fun b x y hr=>hold b (by have:=h.gam.ob q o hq;rw[hr] at this;exact this.lt)) fun j c x hj hx=>hv _ _ (qcz (hf.ob q o hq) hj) hx
 ·rw[qau] at hq hq';unfold put at hr hr';by_cases e:q=p
  ·rw[if_pos e] at hr hq;by_cases e':q'=p
   ·exact absurd (e.trans e'.symm) hne
   ·rw[if_neg e'] at hr' hq';have:=(h.gam.lk q' o' b x' y' hq' hr').1;simp only[zaa,zbb] at hr;omega
  ·rw[if_neg e] at hr hq;by_cases e':q'=p
   ·rw[if_pos e'] at hr' hq';have:=(h.gam.lk q o b x y hq hr).1;simp only[zaa,zbb] at hr';omega
   ·rw[if_neg e'] at hr' hq';exact h.gam.dj q q' o o' b x y x' y' hq hq' hr hr' hne
 ·rw[qau] at hq;unfold put at hr;by_cases e:q=p
  ·rw[if_pos e] at hr hq;simp only[zaa,zbb] at hr hq;obtain⟨rfl,_,_⟩:=hr;subst hq;exact⟨by rw[hh];simp,fun hx=>by simp at hx,fun _=>⟨fun hx=>by have:=h.gam.im _ hx;omega,.inr h.fr.size⟩⟩
  ·rw[if_neg e] at hr hq;have:=h.gam.lk q o b x y hq hr;exact⟨by rw[hh,zdl];omega,this.2⟩
theorem Inv.virtual{E:Env}{w0:Base}{bl I0:Nat->Prop}{s:List (Nat×V)}{H:Heap}{a:Act}{w:World}{Im:Nat->Prop}{ρ:Nat->Loc}(h:Inv E w0 bl I0 s H a w Im ρ){p:Nat}(hf:Free p s H){r:Rw}(hg:growing r=true)(hl:r.len=0)(hok:okR r):
  Inv E w0 bl I0 s (qct H p ⟨r,false⟩) a w Im (put ρ p none):=by
 have hv: ∀v x,qdj p v=false->VRep w Im ρ (shOf H) v x->VRep w Im (put ρ p none) (shOf (qct H p ⟨r,false⟩)) v x:=fun v x hn hx=>
  hx.congr (fun _ _=>rfl) (fun _ h=>h) fun q hq=>.inr ⟨by rw[qda,if_neg (fun e=>by subst e;rw[hn] at hq;cases hq)],by unfold put;rw[if_neg (fun e=>by subst e;rw[hn] at hq;cases hq)]⟩
 refine⟨⟨h.gam.im,h.gam.i0,fun q o hq=> ?_,fun q q' o o' b x y x' y' hq hq' hr hr' hne=> ?_,fun q o b x y hq hr=> ?_,h.gam.imo⟩,h.fr,
  fun t=>hv _ _ (hf.sl t) (h.sl t),h.nt,h.df,h.gl,fun j o hj hg=>by
   rw[qau] at hg;have hb:=hf.big;rw[if_neg (by omega)] at hg;unfold put;rw[if_neg (by omega)];exact h.st j o hj hg⟩
 ·rw[qau] at hq;by_cases e:q=p
  ·subst e;simp only[if_true,zaa] at hq;subst hq;unfold put;rw[if_pos rfl];exact⟨hg,hl,hok⟩
  ·rw[if_neg e] at hq;unfold put;rw[if_neg e];exact ORep.congr (h.gam.ob q o hq) (fun b x y hr=>rfl) fun j c x hj hx=>hv _ _ (qcz (hf.ob q o hq) hj) hx
 ·rw[qau] at hq hq';unfold put at hr hr';by_cases e:q=p
  ·rw[if_pos e] at hr;cases hr
  ·rw[if_neg e] at hr hq;by_cases e':q'=p
   ·rw[if_pos e'] at hr';cases hr'
   ·rw[if_neg e'] at hr' hq';exact h.gam.dj q q' o o' b x y x' y' hq hq' hr hr' hne
 ·rw[qau] at hq;unfold put at hr;by_cases e:q=p
  ·rw[if_pos e] at hr;cases hr
  ·rw[if_neg e] at hr hq;exact h.gam.lk q o b x y hq hr
theorem Inv.drop{E:Env}{w0:Base}{bl I0:Nat->Prop}{s:List (Nat×V)}{H:Heap}{a:Act}{w:World}{Im:Nat->Prop}{ρ:Nat->Loc}(h:Inv E w0 bl I0 s H a w Im ρ)(p:Nat):Inv E w0 bl I0 s (qw9 H p) a w Im ρ:=by
 have hv: ∀v x,VRep w Im ρ (shOf H) v x->VRep w Im ρ (shOf (qw9 H p)) v x:=fun v x hx=>
  hx.congr (fun _ _=>rfl) (fun _ h=>h) fun q hq=>by rw[xbof];split<;>simp
 have hd: ∀q o,qaj (qw9 H p) q=some o->qaj H q=some o:=fun q o hq=>by
  rw[qb4] at hq;split at hq
  ·cases hq
  ·exact hq
 exact⟨⟨h.gam.im,h.gam.i0,fun q o hq=>ORep.congr (h.gam.ob q o (hd q o hq)) (fun _ _ _ _=>rfl) fun _ _ _ _ hx=>hv _ _ hx,
  fun q q' o o' b x y x' y' hq hq'=>h.gam.dj q q' o o' b x y x' y' (hd _ _ hq) (hd _ _ hq'),fun q o b x y hq=>h.gam.lk q o b x y (hd _ _ hq),h.gam.imo⟩,h.fr,
  fun t=>hv _ _ (h.sl t),h.nt,h.df,h.gl,fun j o hj hg=>h.st j o hj (hd j o hg)⟩
theorem Inv.lock{E:Env}{w0:Base}{bl I0:Nat->Prop}{s:List (Nat×V)}{H:Heap}{a:Act}{w:World}{Im:Nat->Prop}{ρ:Nat->Loc}(h:Inv E w0 bl I0 s H a w Im ρ){p:Nat}{o:Obj}(hp:qaj H p=some o):
  ∃Im',Inv E w0 bl I0 s (qct H p {o with lock:=true}) a w Im' ρ/\(∀b,Im b->Im' b)/\(∀b x y,ρ p=some (b,x,y)->Im' b)/\(∀b,Im' b->Im b\/∃x y,ρ p=some (b,x,y)):=by
 refine⟨fun b=>Im b\/∃x y,ρ p=some (b,x,y), ?_,fun b hb=>.inl hb,fun b x y e=>.inr ⟨x,y,e⟩,fun b hb=>hb⟩;have hS:shOf (qct H p {o with lock:=true})=shOf H:=by
  funext q;rw[qda];split
  ·rename_i e;subst e;simp[shOf,hp,shp]
  ·rfl
 have hv: ∀v x,VRep w Im ρ (shOf H) v x->VRep w (fun b=>Im b\/∃x y,ρ p=some (b,x,y)) ρ (shOf (qct H p {o with lock:=true})) v x:=fun v x hx=>
  hx.congr (fun _ _=>rfl) (fun _ h=>.inl h) fun q hq=>.inr ⟨by rw[hS],rfl⟩
 have hd: ∀q u,qaj (qct H p {o with lock:=true}) q=some u->∃u',qaj H q=some u'/\u'.row=u.row/\(u.lock=u'.lock\/q=p/\u.lock=true):=fun q u hq=>by
  rw[qau] at hq;split at hq
  ·rename_i e;subst e;simp only[zaa] at hq;subst hq;exact⟨o,hp,rfl,.inr ⟨rfl,rfl⟩⟩
  ·exact⟨u,hq,rfl,.inl rfl⟩
 refine⟨⟨fun b hb=> ?_,fun b hb=>.inl (h.gam.i0 b hb),fun q u hq=> ?_,fun q q' u u' b x y x' y' hq hq' hr hr' hne=> ?_,fun q u b x y hq hr=> ?_,fun b hb=> ?_⟩,h.fr,
  fun t=>hv _ _ (h.sl t),h.nt,h.df.keep (fun _ _=>rfl) (fun _ h=>.inl h),fun g c hg=>(h.gl g c hg).keep (fun _ _=>rfl) fun _ h=>.inl h,fun j u hj hg=>by
   obtain⟨u',h1,h2,_⟩:=hd j u hg;have:=h.st j u' hj h1;rw[this];simp[shp,h2]⟩
 ·rcases hb with hb|⟨x,y,hb⟩
  ·exact h.gam.im b hb
  ·exact(h.gam.lk p o b x y hp hb).1
 ·obtain⟨u',h1,h2,_⟩:=hd q u hq;rw[<- h2];exact ORep.congr (h.gam.ob q u' h1) (fun _ _ _ _=>rfl) fun _ _ _ _ hx=>hv _ _ hx
 ·obtain⟨v,h1,_,h3⟩:=hd q u hq;obtain⟨v',h1',_,h3'⟩:=hd q' u' hq';have:=h.gam.dj q q' v v' b x y x' y' h1 h1' hr hr' hne;constructor
  ·rcases h3 with e|⟨_,e⟩
   ·rw[e];exact this.1
   ·exact e
  ·rcases h3' with e|⟨_,e⟩
   ·rw[e];exact this.2
   ·exact e
 ·obtain⟨v,h1,_,h3⟩:=hd q u hq;have:=h.gam.lk q v b x y h1 hr;refine⟨this.1,fun hl=> ?_,fun hl=> ?_⟩
  ·rcases h3 with e|⟨e,_⟩
   ·exact .inl (this.2.1 (e▸hl))
   ·subst e;exact .inr ⟨x,y,hr⟩
  ·rcases h3 with e|⟨_,e⟩
   ·have h4:=this.2.2 (e▸hl);refine⟨fun hx=> ?_,h4.2⟩;rcases hx with hx|⟨x',y',hx⟩
    ·exact h4.1 hx
    ·by_cases hqp:q=p
     ·subst hqp;rw[qau,if_pos rfl] at hq;simp only[zaa] at hq;subst hq;simp at hl
     ·have:=(h.gam.dj q p v o b x y x' y' h1 hp hr hx hqp).1;rw[<- e,hl] at this;cases this
   ·rw[e] at hl;cases hl
 ·rcases hb with hb|⟨x,y,hb⟩
  ·exact h.gam.imo b hb
  ·have:=h.gam.lk p o b x y hp hb
   cases hl:o.lock with
   | true=>exact h.gam.imo b (this.2.1 hl)
   | false=>exact .inr (this.2.2 hl).2
theorem qwy{α:Type}{l:List α}{o len:Nat}{tip:Bool}(h:o+len<=l.length)(ht:tip=true->o+len=l.length):win l o len tip=(l.drop o).take len:=by
 unfold win
 cases tip with
 | true=>
  have h':=ht rfl;have h2:(l.drop o).take len=l.drop o:=zbs (by simp;omega);rw[h2];cases o<;>simp
 | false=>cases o<;>simp
theorem qbr{α β:Type}{f:α->List β}{e:Nat}: ∀ {l:List α},(∀c∈l,(f c).length=e)->(l.flatMap f).length=l.length*e
 | [],_=>by simp
 | c::r,h=>by simp only[za5,zah,zaf];rw[h c (by simp),qbr (l:=r) fun d hd=>h d (by simp[hd]),zcu];omega
theorem qlh{α β:Type}{f:α->List β}{e:Nat}: ∀ {l:List α} (o:Nat),(∀c∈l,(f c).length=e)->(l.drop o).flatMap f=(l.flatMap f).drop (o*e)
 | l,0,_=>by simp
 | [],o+1,_=>by simp
 | c::r,o+1,h=>by
  simp only[zdm,za5];have hc:=h c (by simp);have e1:(o+1)*e=e+o*e:=by rw[zcu];omega
  rw[qlh (l:=r) o fun d hd=>h d (by simp[hd]),e1,List.drop_append,hc,za2 (as:=f c) (by omega),za0];congr 1;omega
theorem qli{α β:Type}{f:α->List β}{e:Nat}: ∀ {l:List α} (o:Nat),(∀c∈l,(f c).length=e)->(l.take o).flatMap f=(l.flatMap f).take (o*e)
 | l,0,_=>by simp
 | [],o+1,_=>by simp
 | c::r,o+1,h=>by
  simp only[zdn,za5];have hc:=h c (by simp);have e1:(o+1)*e=e+o*e:=by rw[zcu];omega
  rw[qli (l:=r) o fun d hd=>h d (by simp[hd]),e1,List.take_append,hc,zbs (l:=f c) (by omega)];congr 2;omega
theorem qm3{α β:Type}{f:α->List β}{e:Nat}: ∀ {l:List α} {i:Nat} {c:α} (j:Nat),(∀c∈l,(f c).length=e)->l[i]? =some c->j<e->(l.flatMap f)[i*e+j]? =(f c)[j]?
 | [],i,c,j,_,hi,_=>by simp at hi
 | d::r,0,c,j,h,hi,hj=>by simp at hi;subst hi;simp only[za5,zc2,za1];rw[zax (by rw[h d (by simp)];exact hj)]
 | d::r,i+1,c,j,h,hi,hj=>by simp at hi;simp only[za5];rw[zav (by rw[h d (by simp),zcu];omega),h d (by simp)];have:=qm3 (l:=r) j (fun d hd=>h d (by simp[hd])) hi hj;rw[<- this];congr 1;rw[zcu];omega
theorem qd6(b o n:Nat):(⟨b,o,none⟩:Addr).add n=⟨b,o+n,none⟩:=by
 unfold Addr.add;split
 ·rename_i h;subst h;rfl
 ·rfl
theorem VRep.closed{w:World}{Im:Nat->Prop}{ρ:Nat->Loc}{S:Nat->Option Sh}{c:CV}{x:Value}(h:VRep w Im ρ S (.cl c) x):CRep w Im c x:=by cases h;assumption
theorem qji{f:V->Option CV}: ∀ {l:List V} {cs:List CV},qkc f l=some cs->cs.length=l.length/\∀(j:Nat) (v:V) (c:CV),l[j]? =some v->cs[j]? =some c->f v=some c
 | [],cs,h=>by simp[qkc] at h;subst h;simp
 | v::r,cs,h=>by
  simp only[qkc] at h
  cases hf:f v with
  | none=>simp[hf] at h
  | some c=>
   cases hr:qkc f r with
   | none=>simp[hf,hr] at h
   | some l=>
    simp[hf,hr] at h;subst h;obtain⟨h1,h2⟩:=qji hr;refine⟨by simp[h1],fun j u d hj hd=> ?_⟩
    cases j with
    | zero=>simp at hj hd;subst hj hd;exact hf
    | succ j=>simp at hj hd;exact h2 j u d hj hd
theorem qm2{f:TypeId->V->Option CV}: ∀ {ts:List TypeId} {l:List V} {cs:List CV},qor f ts l=some cs->cs.length=l.length/\∀(j:Nat) (v:V) (c:CV),l[j]? =some v->cs[j]? =some c->∃t,f t v=some c
 | _,[],cs,h=>by simp[qor] at h;subst h;simp
 | [],v::r,cs,h=>by simp[qor] at h
 | t::ts,v::r,cs,h=>by
  simp only[qor] at h
  cases hf:f t v with
  | none=>simp[hf] at h
  | some c=>
   cases hr:qor f ts r with
   | none=>simp[hf,hr] at h
   | some l=>
    simp[hf,hr] at h;subst h;obtain⟨h1,h2⟩:=qm2 hr;refine⟨by simp[h1],fun j u d hj hd=> ?_⟩
    cases j with
    | zero=>simp at hj hd;subst hj hd;exact⟨t,hf⟩
    | succ j=>simp at hj hd;exact h2 j u d hj hd
theorem xbjx{w:World}{Im Im':Nat->Prop}{ρ:Nat->Loc}{S:Nat->Option Sh}{r:Rw}{o len:Nat}{tip:Bool}{c:CV}{b base lim:Nat}{ad:Addr}{cap:Nat}(hr:ORep w Im ρ S r (some (b,base,lim)))(hm: ∀b,Im b->Im' b)(hb:Im' b)(hc:(r.window o len tip).bind Rw.cv=some c)(h1:len<=cap)(h2:o+len<=r.len)(h3:tip=true->o+len=r.len)(h4:cap≠0->ad=⟨b,base+o*r.esz,none⟩):CRep w Im' c (.slice (some ad) len cap):=by
 obtain⟨hok,_,_,_,hcells⟩:=hr;have ints: ∀(k:IntKind) (l:List Int),l.length=r.len->r.esz=1->(qaf r=l.map fun n=>.cl (.int k n))->CRep w Im' (.sli k (win l o len tip)) (.slice (some ad) len cap):=by
  intro k l hl he hcr;rw[<- hl] at h2 h3;rw[qwy h2 h3];refine .sli k _ _ _ _ (by simp;omega) h1 fun i n hi=> ?_;have hil:i<len:=by have:=(zad.1 hi).1;simp at this;omega
  have hi':l[o+i]? =some n:=by rw[zbm hil,zbv] at hi;exact hi
  have he':ad=⟨b,base+o,none⟩:=by have:=h4 (by omega);rw[he,zdr] at this;exact this
  subst he';refine⟨_,rfl,hb, ?_⟩;obtain⟨v,hv,hvo,hvr⟩:=hcells (o+i) (.cl (.int k n)) (by rw[hcr];simp[hi']);rw[qd6,zbq,hv];cases hvr.closed;rfl
 have gens: ∀(e:Nat) (l:List CV),(∀c∈l,(cell1 c).length=e)->l.length=r.len->r.esz=e->(qaf r=(l.flatMap cell1).map .cl)->CRep w Im' (.slg e (win l o len tip)) (.slice (some ad) len cap):=by
  intro e l hu hl he hcr;rw[<- hl] at h2 h3;rw[qwy h2 h3];have hu': ∀c∈(l.drop o).take len,(cell1 c).length=e:=fun c hc=>hu c (zbi (zba hc));have hfl:((l.drop o).take len).flatMap cell1=((l.flatMap cell1).drop (o*e)).take (len*e):=by rw[qli len fun c hc=>hu c (zbi hc),qlh o hu]
  have key: ∀j c,(((l.drop o).take len).flatMap cell1)[j]? =some c->j<len*e/\(l.flatMap cell1)[o*e+j]? =some c:=by
   intro j c hj;rw[hfl] at hj;have hjl:j<len*e:=by have:=(zad.1 hj).1;simp at this;omega
   rw[zbm hjl,zbv] at hj;exact⟨hjl,hj⟩
  refine .slg e _ _ _ _ (fun j=>(w.cell? ⟨b,base+(o*e+j),none⟩).getD undef) hu' (by simp;omega) h1 (fun j c hj=> ?_) (fun j c hj=> ?_) (fun j c hj=> ?_)
  ·obtain⟨hjl,hj'⟩:=key j c hj;have hcap:cap≠0:=fun e0=>by
    have:len=0:=by omega
    rw[this] at hjl;simp at hjl
   have he':=h4 hcap;rw[he] at he';subst he';refine⟨_,rfl,hb, ?_⟩;obtain⟨v,hv,hvo,hvr⟩:=hcells (o*e+j) (.cl c) (by rw[hcr];simp[hj']);rw[qd6,zbq,hv];rfl
  ·obtain⟨hjl,hj'⟩:=key j c hj;obtain⟨v,hv,hvo,hvr⟩:=hcells (o*e+j) (.cl c) (by rw[hcr];simp[hj']);rw[hv];exact hvo
  ·obtain⟨hjl,hj'⟩:=key j c hj;obtain⟨v,hv,hvo,hvr⟩:=hcells (o*e+j) (.cl c) (by rw[hcr];simp[hj']);rw[hv];exact hvr.closed.keep (fun _ _=>rfl) hm
 cases r with
 | ints k l=>simp[Rw.window,Rw.cv] at hc;subst hc;exact ints k l rfl rfl rfl
 | arri n k l=>simp[Rw.window,Rw.cv] at hc;subst hc;exact ints k l hok rfl rfl
 | gen e l=>simp[Rw.window,Rw.cv] at hc;subst hc;exact gens e l hok rfl rfl rfl
 | arrg n e l=>simp[Rw.window,Rw.cv] at hc;subst hc;exact gens e l hok.2 hok.1 rfl rfl
 | var l=>simp[Rw.window] at hc
theorem xbd7{α:Type}(o len:Nat)(tip:Bool):win ([]:List α) o len tip=[]:=by unfold win;cases tip<;>cases o<;>simp
theorem qgy(P:Program){H:Heap}{w:World}{Im Im':Nat->Prop}{ρ:Nat->Loc}(hob: ∀p o,qaj H p=some o->ORep w Im ρ (shOf H) o.row (ρ p))(hm: ∀b,Im b->Im' b):
  ∀(n:Nat) (t:TypeId) (v:V) (c:CV) (x:Value),qbp P H n t v=some c->VRep w Im ρ (shOf H) v x->(∀p∈reach H n v, ∀o,qaj H p=some o->∀b y z,ρ p=some (b,y,z)->Im' b)->CRep w Im' c x:=by
 intro n
 induction n with
 | zero=>
  intro t v c x hc hv hr
  cases v with
  | cl c'=>simp[qbp] at hc;subst hc;exact hv.closed.keep (fun _ _=>rfl) hm
  | nils=>
   cases hv;simp only[qbp] at hc;split at hc
   ·rename_i e _;unfold xbnc at hc;split at hc
    ·simp[Rw.cv] at hc;subst hc;exact .sli _ [] none 0 0 rfl (zar _) (by simp)
    ·simp[Rw.cv] at hc;subst hc;exact .slg _ [] none 0 0 (fun _=>undef) (by simp) rfl (zar _) (by simp) (by simp) (by simp)
   ·cases hc
  | _=>simp[qbp] at hc
 | succ n ih=>
  intro t v c x hc hv hr
  cases v with
  | cl c'=>simp[qbp] at hc;subst hc;exact hv.closed.keep (fun _ _=>rfl) hm
  | undef=>simp[qbp] at hc
  | tup l=>simp[qbp] at hc
  | nils=>
   cases hv;simp only[qbp] at hc;split at hc
   ·rename_i e _;unfold xbnc at hc;split at hc
    ·simp[Rw.cv] at hc;subst hc;exact .sli _ [] none 0 0 rfl (zar _) (by simp)
    ·simp[Rw.cv] at hc;subst hc;exact .slg _ [] none 0 0 (fun _=>undef) (by simp) rfl (zar _) (by simp) (by simp) (by simp)
   ·cases hc
  | agg l=>
   simp only[qbp] at hc
   cases hcl:qor (qbp P H n) (xbjc P 8 t) l with
   | none=>simp[hcl] at hc
   | some cs=>
    simp[hcl] at hc;subst hc;obtain⟨hl,hs⟩:=qm2 hcl
    cases hv with
    | agg _ vs hlen hone hvs=>
     refine .agg cs vs (by omega) hone fun j c v hj hv=> ?_;obtain⟨u,hu⟩:=getElem?_of_length (l:=cs) (vs:=l) hl.symm hj;obtain⟨t',ht'⟩:=hs j u c hu hj;exact ih t' u c v ht' (hvs j u v hu hv) fun p hp=>hr p (by simp only[reach,zb7];exact⟨u,zac hu,hp⟩)
  | iface t' v=>
   simp only[qbp] at hc
   cases hcl:qbp P H n t' v with
   | none=>simp[hcl] at hc
   | some d=>
    simp[hcl] at hc;subst hc
    cases hv with
    | iface _ _ x' hx=>exact .iface t' d x' (ih t' v d x' hcl hx fun p hp=>hr p (by simpa only [reach] using hp))
  | fn f first cap=>
   simp only[qbp] at hc
   cases h1:qkc (qbp P H n 0) first with
   | none=>simp[h1] at hc
   | some ca=>
    cases h2:qkc (qbp P H n 0) cap with
    | none=>simp[h1,h2] at hc
    | some cb=>
     simp[h1,h2] at hc;subst hc;obtain⟨hl1,hs1⟩:=qji h1;obtain⟨hl2,hs2⟩:=qji h2
     cases hv with
     | fn _ _ _ va vb hlen1 hlen2 hv1 hv2=>
      refine .fn f ca cb va vb (by omega) (by omega) (fun j c v hj hv=> ?_) (fun j c v hj hv=> ?_)
      ·obtain⟨u,hu⟩:=getElem?_of_length (l:=ca) (vs:=first) hl1.symm hj;exact ih 0 u c v (hs1 j u c hu hj) (hv1 j u v hu hv) fun p hp=>hr p (by simp only[reach,zak,zb7];exact .inl ⟨u,zac hu,hp⟩)
      ·obtain⟨u,hu⟩:=getElem?_of_length (l:=cb) (vs:=cap) hl2.symm hj;exact ih 0 u c v (hs2 j u c hu hj) (hv2 j u v hu hv) fun p hp=>hr p (by simp only[reach,zak,zb7];exact .inr ⟨u,zac hu,hp⟩)
  | ptr p i o=>
   simp only[qbp] at hc
   cases hp:qaj H p with
   | none=>simp[hp] at hc
   | some ob=>
    have hS:shOf H p=some (shp ob):=by simp[shOf,hp]
    cases hv with
    | ptrN _ _ _ _ h=>rw[hS] at h;cases h
    | ptr _ _ _ s b base lim h1 h2 h3=>
     rw[hS] at h1;simp only[zaa] at h1;subst h1;have hO:=hob p ob hp;rw[h2] at hO;have hIm:Im' b:=hr p (by simp[reach]) _ hp b base lim h2;obtain⟨hok,_,_,_,hcells⟩:=hO;simp only[hp] at hc
     cases hrow:ob.row with
     | ints k l=>
      simp[hrow] at hc;subst hc;rw[hrow] at hok hcells;have he:(shp ob).esz=1:=by simp[shp,hrow,Rw.esz]
      rw[he];refine .vp _ i o 1 _ b base (fun j=>(w.cell? ⟨b,base+j,none⟩).getD undef) rfl trivial hIm (fun j c hj=> ?_) (fun j c hj=> ?_) (fun j c hj=> ?_)
      ·obtain⟨v,hv,_,_⟩:=hcells j (.cl c) (by simp only[qaf];simp at hj;obtain⟨m,hm1,rfl⟩:=hj;simp[hm1]);rw[hv];rfl
      ·obtain⟨v,hv,hvo,_⟩:=hcells j (.cl c) (by simp only[qaf];simp at hj;obtain⟨m,hm1,rfl⟩:=hj;simp[hm1]);rw[hv];exact hvo
      ·obtain⟨v,hv,hvo,hx⟩:=hcells j (.cl c) (by simp only[qaf];simp at hj;obtain⟨m,hm1,rfl⟩:=hj;simp[hm1]);rw[hv];exact hx.closed.keep (fun _ _=>rfl) hm
     | arri m k l=>
      simp[hrow] at hc;subst hc;rw[hrow] at hok hcells;have he:(shp ob).esz=1:=by simp[shp,hrow,Rw.esz]
      rw[he];refine .vp _ i o 1 _ b base (fun j=>(w.cell? ⟨b,base+j,none⟩).getD undef) rfl hok hIm (fun j c hj=> ?_) (fun j c hj=> ?_) (fun j c hj=> ?_)
      ·obtain⟨v,hv,_,_⟩:=hcells j (.cl c) (by simp only[qaf];simp at hj;obtain⟨m,hm1,rfl⟩:=hj;simp[hm1]);rw[hv];rfl
      ·obtain⟨v,hv,hvo,_⟩:=hcells j (.cl c) (by simp only[qaf];simp at hj;obtain⟨m,hm1,rfl⟩:=hj;simp[hm1]);rw[hv];exact hvo
      ·obtain⟨v,hv,hvo,hx⟩:=hcells j (.cl c) (by simp only[qaf];simp at hj;obtain⟨m,hm1,rfl⟩:=hj;simp[hm1]);rw[hv];exact hx.closed.keep (fun _ _=>rfl) hm
     | gen e l=>
      simp[hrow] at hc;subst hc;rw[hrow] at hok hcells;have he:(shp ob).esz=e:=by simp[shp,hrow,Rw.esz]
      rw[he];refine .vp _ i o e _ b base (fun j=>(w.cell? ⟨b,base+j,none⟩).getD undef) rfl hok hIm (fun j c hj=> ?_) (fun j c hj=> ?_) (fun j c hj=> ?_)
      ·obtain⟨v,hv,_,_⟩:=hcells j (.cl c) (by simp only[qaf];simp[hj]);rw[hv];rfl
      ·obtain⟨v,hv,hvo,_⟩:=hcells j (.cl c) (by simp only[qaf];simp[hj]);rw[hv];exact hvo
      ·obtain⟨v,hv,hvo,hx⟩:=hcells j (.cl c) (by simp only[qaf];simp[hj]);rw[hv];exact hx.closed.keep (fun _ _=>rfl) hm
     | arrg m e l=>
      simp[hrow] at hc;subst hc;rw[hrow] at hok hcells;have he:(shp ob).esz=e:=by simp[shp,hrow,Rw.esz]
      rw[he];refine .vp _ i o e _ b base (fun j=>(w.cell? ⟨b,base+j,none⟩).getD undef) rfl hok hIm (fun j c hj=> ?_) (fun j c hj=> ?_) (fun j c hj=> ?_)
      ·obtain⟨v,hv,_,_⟩:=hcells j (.cl c) (by simp only[qaf];simp[hj]);rw[hv];rfl
      ·obtain⟨v,hv,hvo,_⟩:=hcells j (.cl c) (by simp only[qaf];simp[hj]);rw[hv];exact hvo
      ·obtain⟨v,hv,hvo,hx⟩:=hcells j (.cl c) (by simp only[qaf];simp[hj]);rw[hv];exact hx.closed.keep (fun _ _=>rfl) hm
     | var l=>
      simp only[hrow] at hc
      cases hcl:qkc (qbp P H n 0) l with
      | none=>simp[hcl] at hc
      | some ca=>
       simp[hcl] at hc;subst hc;obtain⟨hl,hs⟩:=qji hcl;rw[hrow] at hcells;have he:(shp ob).esz=ca.length:=by simp[shp,hrow,Rw.esz,hl]
       rw[he];refine .vp _ i o ca.length ca b base (fun j=>(w.cell? ⟨b,base+j,none⟩).getD undef) rfl trivial hIm (fun j c hj=> ?_) (fun j c hj=> ?_) (fun j c hj=> ?_)
       ·obtain⟨u,hu⟩:=getElem?_of_length (l:=ca) (vs:=l) hl.symm hj;obtain⟨v,hv,_,_⟩:=hcells j u hu;rw[hv];rfl
       ·obtain⟨u,hu⟩:=getElem?_of_length (l:=ca) (vs:=l) hl.symm hj;obtain⟨v,hv,hvo,_⟩:=hcells j u hu;rw[hv];exact hvo
       ·obtain⟨u,hu⟩:=getElem?_of_length (l:=ca) (vs:=l) hl.symm hj;obtain⟨v,hv,hvo,hx⟩:=hcells j u hu;rw[hv];exact ih 0 u c v (hs j u c hu hj) hx fun q hq=>hr q (by
         obtain⟨row,lock⟩:=ob;simp only at hrow;subst hrow;simp only[reach,hp,zas,zb7];exact .inr ⟨u,zac hu,hq⟩)
  | aptr p m e=>
   simp only[qbp] at hc
   cases hp:qaj H p with
   | none=>simp[hp] at hc
   | some ob=>
    have hS:shOf H p=some (shp ob):=by simp[shOf,hp]
    cases hv with
    | aptrN _ _ _ _ h=>rw[hS] at h;cases h
    | aptr _ _ _ b base lim h1 h2=>
     have hO:=hob p ob hp;rw[h2] at hO;have hIm:Im' b:=hr p (by simp[reach]) _ hp b base lim h2;obtain⟨hok,_,_,_,hcells⟩:=hO;simp only[hp] at hc
     cases hrow:ob.row with
     | ints k l=>simp[hrow] at hc
     | gen e l=>simp[hrow] at hc
     | var l=>simp[hrow] at hc
     | arri m' k l=>
      simp[hrow] at hc;subst hc;rw[hrow] at hok hcells;have:=CRep.vp (w:=w) (Im:=Im') (.aggi m' k l) 0 0 1 _ b base (fun j=>(w.cell? ⟨b,base+j,none⟩).getD undef) rfl hok hIm (fun j c hj=>by
       obtain⟨v,hv,_,_⟩:=hcells j (.cl c) (by simp only[qaf];simp at hj;obtain⟨m,hm1,rfl⟩:=hj;simp[hm1]);rw[hv];rfl) (fun j c hj=>by
       obtain⟨v,hv,hvo,_⟩:=hcells j (.cl c) (by simp only[qaf];simp at hj;obtain⟨m,hm1,rfl⟩:=hj;simp[hm1]);rw[hv];exact hvo) (fun j c hj=>by
       obtain⟨v,hv,hvo,hx⟩:=hcells j (.cl c) (by simp only[qaf];simp at hj;obtain⟨m,hm1,rfl⟩:=hj;simp[hm1]);rw[hv];exact hx.closed.keep (fun _ _=>rfl) hm)
      simpa using this
     | arrg m' e' l=>
      simp[hrow] at hc;subst hc;rw[hrow] at hok hcells;have:=CRep.vp (w:=w) (Im:=Im') (.agga m' e' l) 0 0 e' _ b base (fun j=>(w.cell? ⟨b,base+j,none⟩).getD undef) rfl hok hIm (fun j c hj=>by
       obtain⟨v,hv,_,_⟩:=hcells j (.cl c) (by simp only[qaf];simp[hj]);rw[hv];rfl) (fun j c hj=>by
       obtain⟨v,hv,hvo,_⟩:=hcells j (.cl c) (by simp only[qaf];simp[hj]);rw[hv];exact hvo) (fun j c hj=>by
       obtain⟨v,hv,hvo,hx⟩:=hcells j (.cl c) (by simp only[qaf];simp[hj]);rw[hv];exact hx.closed.keep (fun _ _=>rfl) hm)
      simpa using this
  | ref p o len tip e=>
   simp only[qbp] at hc
   cases hp:qaj H p with
   | none=>simp[hp] at hc
   | some ob=>
    have hS:shOf H p=some (shp ob):=by simp[shOf,hp]
    have hc':(ob.row.window o len tip).bind Rw.cv=some c:=by
     simp only[hp] at hc
     cases hw:ob.row.window o len tip with
     | none=>simp[hw] at hc
     | some r=>simp[hw] at hc;simp[hc]
    have hO:=hob p ob hp
    cases hv with
    | refN _ _ _ _ _ _ _ h _ _=>rw[hS] at h;cases h
    | refV _ s _ _ h1 h2 h3 h4=>
     rw[hS] at h1;simp only[zaa] at h1;subst h1;rw[h2] at hO;obtain⟨hg,hl,hok⟩:=hO
     cases hrow:ob.row with
     | ints k l=>
      rw[hrow] at hl hc';have:l=[]:=by simpa [Rw.len] using hl
      subst this;simp[Rw.window,Rw.cv,xbd7] at hc';subst hc';exact .sli _ [] none 0 0 rfl (zar _) (by simp)
     | gen e l=>
      rw[hrow] at hl hc';have:l=[]:=by simpa [Rw.len] using hl
      subst this;simp[Rw.window,Rw.cv,xbd7] at hc';subst hc';exact .slg _ [] none 0 0 (fun _=>undef) (by simp) rfl (zar _) (by simp) (by simp) (by simp)
     | arri n k l=>rw[hrow] at hg;cases hg
     | arrg n e l=>rw[hrow] at hg;cases hg
     | var l=>rw[hrow] at hg;cases hg
    | ref _ _ _ _ _ s b base lim ad cap h1 h2 h3 h4 h5 h6 h7 h8=>
     rw[hS] at h1;simp only[zaa] at h1;subst h1;rw[h2] at hO;exact xbjx hO hm (hr p (by simp[reach]) _ hp b base lim h2) hc' h4 h5 h6 (by intro hcap;have:=h7 hcap;rw[<- h3] at this;exact this)
theorem Inv.lockAll{E:Env}{w0:Base}{bl I0:Nat->Prop}{s:List (Nat×V)}{H:Heap}{a:Act}{w:World}{ρ:Nat->Loc}:
  ∀(l:List Nat) (H1:Heap) (Im:Nat->Prop),Inv E w0 bl I0 s H1 a w Im ρ->(∀q o,qaj H q=some o->∃o1,qaj H1 q=some o1/\o1.row=o.row)->
  ∃Im',Inv E w0 bl I0 s (updH H1 (lockAll H l)) a w Im' ρ/\(∀b,Im b->Im' b)/\(∀p∈l, ∀o,qaj H p=some o->∀b x y,ρ p=some (b,x,y)->Im' b)/\shOf (updH H1 (lockAll H l))=shOf H1:=by
 intro l
 induction l with
 | nil=>intro H1 Im h _;exact⟨Im,h,fun _ h=>h,by simp,rfl⟩
 | cons p r ih=>
  intro H1 Im h hrow;simp only[YtoiikagnjcjccaaGreatDoorA.lockAll]
  cases hp:qaj H p with
  | none=>
   obtain⟨Im',i1,i2,i3,i4⟩:=ih H1 Im h hrow;refine⟨Im',i1,i2,fun q hq o ho=> ?_,i4⟩;rcases zas.1 hq with rfl|hq
   ·rw[hp] at ho;cases ho
   ·exact i3 q hq o ho
  | some ob=>
   obtain⟨o1,h1,h2⟩:=hrow p ob hp;have he:({ob with lock:=true}:Obj)= {o1 with lock:=true}:=by cases ob;cases o1;simp at h2;subst h2;rfl
   simp only[updH];rw[he];obtain⟨Im1,j1,j2,j3,_⟩:=h.lock h1;have hS:shOf (qct H1 p {o1 with lock:=true})=shOf H1:=by
    funext q;rw[qda];split
    ·rename_i e;subst e;simp[shOf,h1,shp]
    ·rfl
   obtain⟨Im',i1,i2,i3,i4⟩:=ih (qct H1 p {o1 with lock:=true}) Im1 j1 fun q o hq=>by
    obtain⟨u,hu,hu'⟩:=hrow q o hq;rw[qau];split
    ·rename_i e;subst e;rw[h1] at hu;simp only[zaa] at hu;subst hu;exact⟨_,rfl,hu'⟩
    ·exact⟨u,hu,hu'⟩
   refine⟨Im',i1,fun b hb=>i2 b (j2 b hb),fun q hq o ho b x y hr=> ?_,i4.trans hS⟩;rcases zas.1 hq with rfl|hq
   ·exact i2 b (j3 b x y hr)
   ·exact i3 q hq o ho b x y hr
theorem qf3{P:Program}{o:Oper}{a:Act}{w w':World}{v:Value}{K:Act->World->Prop}{Q:Exit->Act->World->Prop}(h:(execOp a.eval o).run P w=.ok (.value v) w')(hk:K (a.put o.dst v) w'):o.wp P a w K Q:=by unfold Oper.wp;rw[h];exact hk
theorem xbd9{P:Program}{o:Oper}{a:Act}{w w':World}{K:Act->World->Prop}{Q:Exit->Act->World->Prop}(h:(execOp a.eval o).run P w=.ok .skip w')(hk:K (a.put o.dst undef) w'):o.wp P a w K Q:=by unfold Oper.wp;rw[h];exact hk
section
variable {w:World} {Im:Nat->Prop} {ρ:Nat->Loc} {S:Nat->Option Sh} {x:Value}
theorem VRep.int{k:IntKind}{n:Int}(h:VRep w Im ρ S (.cl (.int k n)) x):x=.int k n:=by cases h.closed;rfl
theorem VRep.str{b:ByteArray}(h:VRep w Im ρ S (.cl (.str b)) x):x=.string b:=by cases h.closed;rfl
theorem VRep.bool{b:Bool}(h:VRep w Im ρ S (.cl (.bool b)) x):x=.bool b:=by cases h.closed;rfl
theorem VRep.ofInt(k:IntKind)(n:Int):VRep w Im ρ S (.cl (.int k n)) (.int k n):=.cl _ _ (.int k n)
theorem VRep.ofBool(b:Bool):VRep w Im ρ S (.cl (.bool b)) (.bool b):=.cl _ _ (.bool b)
theorem VRep.ofStr(b:ByteArray):VRep w Im ρ S (.cl (.str b)) (.string b):=.cl _ _ (.str b)
end
theorem qaa{β:Type}{c:Bool}{x:Option β}{r:β}(h:cond c x none=some r):c=true/\x=some r:=by cases c<;>simp_all
theorem qb3{β:Type}{c:Bool}{x y:Option β}{r:β}(h:cond c x y=some r):(c=true/\x=some r)\/(c=false/\y=some r):=by
 cases c with
 | true=>exact .inl ⟨rfl,h⟩
 | false=>exact .inr ⟨rfl,h⟩
theorem qaw{β:Type}{c:Bool}{x:Option β}{r:β}(h:cond c none x=some r):c=false/\x=some r:=by cases c<;>simp_all
theorem qrf{P:Program}{t:TypeId}(hb:P.underlying t=some .bool)(d:Nat)(m n:Bool)(w:World):(Op.equalIn (d+1) t (.bool m) (.bool n)).run P w=.ok (m==n) w:=by simp[Op.equalIn,underlying,hb]
theorem q1o(P:Program)(op:BinOp)(t:TypeId)(ox oy:Operand)(k k':IntKind)(m n:Int)(w:World):
  (do eqGuard op t ox oy (.int k m) (.int k' n);binOp op t (.int k m) (.int k' n):Sem Value).run P w=(binOp op t (.int k m) (.int k' n)).run P w:=by
 simp[eqGuard_at_int]
theorem qoo{P:Program}{w:World}{t:TypeId}{d:TypeDesc}(hu:P.underlying t=some d)(hd:(∃k,d=.int k)\/d=.bool\/d=.string){cs:Array Value}{i:Nat}{v:Value}(hv:cs[i]? =some v):(part t cs i).run P w=.ok v w:=by
 have ha:(isAgg t).run P w=.ok false w:=by rcases hd with⟨k,rfl⟩|rfl|rfl<;>simp[isAgg,underlying,hu]
 simp[part,ha,hv]
theorem qxo{P:Program}{w:World}{Im:Nat->Prop}: ∀(fs:List Field) (i:Nat) (xs ys:List CV) (vs us:Array Value) (r:Bool),eqFK P fs i xs ys=some r->
  (∀(j:Nat) (c:CV),xs[j]? =some c->∃v,vs[i+j]? =some v/\CRep w Im c v)->(∀(j:Nat) (c:CV),ys[j]? =some c->∃v,us[i+j]? =some v/\CRep w Im c v)->
  (Op.eqFields 9999 vs us fs).run P w=.ok r w
 | [],i,xs,ys,vs,us,r,h,hx,hy=>by
  match xs,ys,h with
  | [],[],h=>cases h;simp[Op.eqFields]
 | f::fs,i,xs,ys,vs,us,r,h,hx,hy=>by
  match xs,ys,h with
  | x::xs,y::ys,h=>
   unfold eqFK at h;obtain⟨h1,h2⟩:=qaa h;clear h;rw[zab,zao] at h1;have ho:f.offset=i:=Nat.eq_of_beq_eq_true h1.2;have hn:f.name≠ "_" :=fun e=>by rw[e] at h1;exact absurd h1.1 (by decide)
   obtain⟨v,hv,cv⟩:=hx 0 x rfl;obtain⟨u,hu,cu⟩:=hy 0 y rfl;rw[Nat.add_zero, <- ho] at hv hu;have ih: ∀r',eqFK P fs (i+1) xs ys=some r'->(Op.eqFields 9999 vs us fs).run P w=.ok r' w:=fun r' h'=>
    qxo fs (i+1) xs ys vs us r' h' (fun j c hj=>by
     obtain⟨v,h3,h4⟩:=hx (j+1) c hj;exact⟨v,by rw[show i+1+j=i+(j+1) by omega];exact h3,h4⟩) fun j c hj=>by
     obtain⟨v,h3,h4⟩:=hy (j+1) c hj;exact⟨v,by rw[show i+1+j=i+(j+1) by omega];exact h3,h4⟩
   have key: ∀(d:TypeDesc) (b r':Bool),P.underlying f.type=some d->((∃k,d=.int k)\/d=.bool\/d=.string)->(Op.equalIn 9999 f.type v u).run P w=.ok b w->eqFK P fs (i+1) xs ys=some r'->(Op.eqFields 9999 vs us (f::fs)).run P w=.ok (b&&r') w:=fun d b r' hd1 hd2 hb hr=>by
    simp only[Op.eqFields,if_pos hn,Sem.run_bind,qoo hd1 hd2 hv,qoo hd1 hd2 hu,Result.andThen_ok,hb];cases b
    ·simp
    ·simp[ih r' hr]
   split at h2
   ·rename_i k a k' b k'' hd;obtain⟨hk,h3⟩:=qaa h2;obtain rfl:=of_decide_eq_true hk;obtain⟨r',hr,rfl⟩:=zaq.1 h3;cases cv;cases cu;refine key _ _ r' hd (.inl ⟨_,rfl⟩) ?_ hr;rw[show(9999:Nat)=9998+1 from rfl,run_equalIn_int w 9998 f.type k k'' a b hd];simp[Bool.beq_eq_decide_eq]
   ·rename_i a b hd;obtain⟨r',hr,rfl⟩:=zaq.1 h2;cases cv;cases cu;exact key _ _ r' hd (.inr (.inl rfl)) (run_equalIn_bool' w 9998 f.type a b hd) hr
   ·rename_i a b hd;obtain⟨r',hr,rfl⟩:=zaq.1 h2;cases cv;cases cu;exact key _ _ r' hd (.inr (.inr rfl)) (run_equalIn_string w 9998 f.type a b hd) hr
   ·cases h2
theorem qsp{P:Program}{w:World}{Im:Nat->Prop}{t:TypeId}{xs ys:List CV}{vs us:List Value}{r:Bool}(h:xbvs P t xs ys=some r)(hx:vs.length=xs.length/\∀(j:Nat) (c:CV) (v:Value),xs[j]? =some c->vs[j]? =some v->CRep w Im c v)(hy:us.length=ys.length/\∀(j:Nat) (c:CV) (v:Value),ys[j]? =some c->us[j]? =some v->CRep w Im c v):P.eqGuardType P.depth t=false/\(Op.equalIn 10000 t (.agg vs.toArray) (.agg us.toArray)).run P w=.ok r w:=by
 unfold xbvs at h;split at h
 ·rename_i fs hu;obtain⟨h1,h2⟩:=qaa h;rw[zab,zao,zao] at h1;refine⟨h1.2, ?_⟩;have hf:P.fieldsOf t=fs:=by simp[Program.fieldsOf,hu]
  have part: ∀(l:List CV) (zs:List Value),(zs.length=l.length/\∀(j:Nat) (c:CV) (v:Value),l[j]? =some c->zs[j]? =some v->CRep w Im c v)->∀(j:Nat) (c:CV),l[j]? =some c->∃v,zs.toArray[0+j]? =some v/\CRep w Im c v:=fun l zs hz j c hj=>by have hlt:j<l.length:=(zad.1 hj).1;have e:zs[j]? =some zs[j]:=zae (by omega);exact⟨zs[j],by rw[za1,List.getElem?_toArray];exact e,hz.2 j c _ hj e⟩
  rw[show(10000:Nat)=9999+1 from rfl,run_equalIn_struct w 9999 t _ _ (by rw[hf];exact hu) h1.1,hf];exact qxo fs.toList 0 xs ys _ _ r h2 (part xs vs hx) (part ys us hy)
 ·cases h
theorem q8x{P:Program}{β:Type}{op:BinOp}{x y:V}{k:V->Option β}{r:β}{w:World}{Im:Nat->Prop}{ρ:Nat->Loc}{S:Nat->Option Sh}{a b:Value}{t:TypeId}(h:binK P op t x y k=some r)(hx:VRep w Im ρ S x a)(hy:VRep w Im ρ S y b)(ox oy:Operand):
  ∃v val,k v=some r/\VRep w Im ρ S v val/\(do eqGuard op t ox oy a b;binOp op t a b:Sem Value).run P w=.ok val w:=by
 unfold binK at h;split at h
 ·rename_i ka m kb n;obtain rfl:=hx.int;obtain rfl:=hy.int;rw[q1o];cases op<;>simp only[] at h
  case shl=>
   obtain⟨h1,h2⟩:=qaw h;have h1': ¬n<0:=by simpa using h1
   exact⟨_,_,h2,.ofInt _ _,by simp[binOp,Op.shift,h1']⟩
  case shr=>
   obtain⟨h1,h2⟩:=qaw h;have h1': ¬n<0:=by simpa using h1
   exact⟨_,_,h2,.ofInt _ _,by simp[binOp,Op.shift,h1']⟩
  all_goals
   obtain⟨hk,h2⟩:=qaa h;clear h;obtain rfl:ka=kb:=of_decide_eq_true hk;clear hk
  case quo=>
   obtain⟨h1,h2⟩:=qaw h2;have h1': ¬n=0:=by simpa using h1
   exact⟨_,_,h2,.ofInt _ _,by simp[binOp,Op.intDiv,h1']⟩
  case rem=>
   obtain⟨h1,h2⟩:=qaw h2;have h1': ¬n=0:=by simpa using h1
   exact⟨_,_,h2,.ofInt _ _,by simp[binOp,Op.intDiv,h1']⟩
  case eql=>exact⟨_,_,h2,.ofBool _,by rw[binOp_eql];simp[Bool.beq_eq_decide_eq]⟩
  case neq=>exact⟨_,_,h2,.ofBool _,by rw[binOp_neq];simp[bne,Bool.beq_eq_decide_eq]⟩
  case add=>exact⟨_,_,h2,.ofInt _ _,by rw[binOp_add];rfl⟩
  case sub=>exact⟨_,_,h2,.ofInt _ _,by rw[binOp_sub];rfl⟩
  case mul=>exact⟨_,_,h2,.ofInt _ _,by rw[binOp_mul];rfl⟩
  case and=>exact⟨_,_,h2,.ofInt _ _,by rw[binOp_and];rfl⟩
  case or=>exact⟨_,_,h2,.ofInt _ _,by rw[binOp_or];rfl⟩
  case xor=>exact⟨_,_,h2,.ofInt _ _,by rw[binOp_xor];rfl⟩
  case andNot=>exact⟨_,_,h2,.ofInt _ _,by rw[binOp_andNot];rfl⟩
  case lss=>exact⟨_,_,h2,.ofBool _,by rw[binOp_lss];rfl⟩
  case leq=>exact⟨_,_,h2,.ofBool _,by rw[binOp_leq];rfl⟩
  case gtr=>exact⟨_,_,h2,.ofBool _,by rw[binOp_gtr];rfl⟩
  case geq=>exact⟨_,_,h2,.ofBool _,by rw[binOp_geq];rfl⟩
 ·rename_i m n;obtain rfl:=hx.str;obtain rfl:=hy.str;have e0: ∀(op:BinOp),(do eqGuard op t ox oy (.string m) (.string n);binOp op t (.string m) (.string n):Sem Value).run P w=(Op.stringOp op m n).run P w:=fun op=>by rw[eqGuard_at_string];cases op<;>simp[binOp]
  rw[e0];cases op<;>simp only[] at h
  case add=>
   obtain⟨h1,h2⟩:=qaa h;have h1':m.size+n.size<=LIMN:=zb5 h1;have h1'': ¬((m.size+n.size:Nat):Int)>IntKind.i64.max:=by
    have:(LIMN:Int)<=IntKind.i64.max:=by decide
    omega
   refine⟨_,_,h2,.ofStr _, ?_⟩;simp only[Op.stringOp];rw[if_neg h1''];rfl
  all_goals first
   | exact⟨_,_,h,.ofBool _,by simp[Op.stringOp]⟩
   | cases h
 ·rename_i m n;obtain rfl:=hx.bool;obtain rfl:=hy.bool;have eqB: ∀(hb:P.underlying t=some .bool),(Op.equal t (.bool m) (.bool n)).run P w=.ok (m==n) w:=fun hb=>qrf hb 9999 m n w;split at h
  ·rename_i hb;refine⟨_,_,h,.ofBool _, ?_⟩;rw[eqGuard_at_bool];simp[binOp,eqB hb]
  ·rename_i hb;refine⟨_,_,h,.ofBool _, ?_⟩;rw[eqGuard_at_bool];simp[binOp,eqB hb]
  ·cases h
 ·rename_i la lb;have ha:=hx.closed;have hb:=hy.closed
  cases ha with
  | agg l vs k1 k2 k3=>
  cases hb with
  | agg l' us m1 m2 m3=>
  split at h
  ·rename_i r' he;obtain⟨e1,e2⟩:=qsp he ⟨k1,k3⟩ ⟨m1,m3⟩;refine⟨_,_,h,.ofBool _, ?_⟩;simp[run_eqGuard_agg w _ t ox oy _ _ e1,run_eql_struct w t,e2]
  ·rename_i r' he;obtain⟨e1,e2⟩:=qsp he ⟨k1,k3⟩ ⟨m1,m3⟩;refine⟨_,_,h,.ofBool _, ?_⟩;simp[run_eqGuard_agg w _ t ox oy _ _ e1,run_neq_struct w t,e2]
  ·cases h
 ·cases h
theorem xbhg{P:Program}{β:Type}{op:UnOp}{x:V}{k:V->Option β}{r:β}{w:World}{Im:Nat->Prop}{ρ:Nat->Loc}{S:Nat->Option Sh}{a:Value}(h:unK op x k=some r)(hx:VRep w Im ρ S x a):
  ∃v val,k v=some r/\VRep w Im ρ S v val/\(Op.unary op a).run P w=.ok val w:=by
 unfold unK at h;split at h
 ·obtain rfl:=hx.int;exact⟨_,_,h,.ofInt _ _,rfl⟩
 ·obtain rfl:=hx.int;exact⟨_,_,h,.ofInt _ _,rfl⟩
 ·obtain rfl:=hx.bool;exact⟨_,_,h,.ofBool _,rfl⟩
 ·cases h
section
variable {P:Program} {t:TypeId}
theorem xbfm{k:IntKind}(h:kd P t=.int k):P.underlying t=some (.int k):=by unfold kd at h;split at h<;>first|cases h;assumption|cases h
theorem q09(h:kd P t=.str):P.underlying t=some .string:=by unfold kd at h;split at h<;>first|cases h;assumption|cases h
theorem qcd{e:TypeId}(h:kd P t=.slice e):P.underlying t=some (.slice e):=by unfold kd at h;split at h<;>first|cases h;assumption|cases h
theorem qfn{fs:Array Field}(h:kd P t=.struct fs):P.underlying t=some (.struct fs):=by unfold kd at h;split at h<;>first|cases h;assumption|cases h
theorem qos{n:Nat}{e:TypeId}(h:kd P t=.arr n e):P.underlying t=some (.array n e):=by unfold kd at h;split at h<;>first|cases h;assumption|cases h
def oneK:Kd->Bool
 | .int _|.slice _|.str|.one=>true
 | _=>false
theorem qon(h:oneK (kd P t)=true)(w:World):(isAgg t).run P w=.ok false w:=by
 unfold kd at h;unfold isAgg
 cases hu:P.underlying t with
 | none=>rw[hu] at h;cases h
 | some d=>rw[hu] at h;cases d<;>simp_all [underlying,oneK]
theorem qi7{fs:Array Field}(h:kd P t=.struct fs)(w:World):(isAgg t).run P w=.ok true w:=by simp[isAgg,underlying,qfn h]
theorem qem{n:Nat}{e:TypeId}(h:kd P t=.arr n e)(w:World):(isAgg t).run P w=.ok true w:=by simp[isAgg,underlying,qos h]
theorem qko{d:TypeDesc}(h:P.underlying t=some d)(w:World):(underlying t).run P w=.ok d w:=by simp[underlying,h]
theorem xbiz{d:TypeDesc}(h:P.underlying t=some d): ∃i,P.info? t=some i:=by
 unfold Program.underlying at h
 cases hi:P.info? t with
 | none=>rw[hi] at h;cases h
 | some i=>exact⟨i,rfl⟩
theorem qta{d:TypeDesc}(h:P.underlying t=some d)(w:World):(sizeOf t).run P w=.ok (qaq P t) w:=by obtain⟨i,hi⟩:=xbiz h;simp[sizeOf,typeInfo,hi,qaq]
end
def Cells(w:World)(Im:Nat->Prop)(ρ:Nat->Loc)(S:Nat->Option Sh)(b off:Nat)(C:List V):Prop:=
 ∀(j:Nat) (c:V),C[j]? =some c->∃v,w.cell? ⟨b,off+j,none⟩=some v/\oneC v=true/\VRep w Im ρ S c v
section
variable {P:Program} {t:TypeId} {w:World} {Im:Nat->Prop} {ρ:Nat->Loc} {S:Nat->Option Sh}
theorem qc4(h:oneK (kd P t)=true){A:Addr}{v:Value}(hc:w.cell? A=some v):(Instr.loadAt t (.pointer (some A))).run P w=.ok v w:=by simp[Instr.loadAt,Instr.sureAddr,loadVar,qon h,hc]
theorem qd0{fs:TypeDesc}(hu:P.underlying t=some fs)(ha:(isAgg t).run P w=.ok true w){A:Addr}{vs:List Value}(hl:vs.length=qaq P t)(hc: ∀(j:Nat) (v:Value),vs[j]? =some v->w.cell? (A.add j)=some v):(Instr.loadAt t (.pointer (some A))).run P w=.ok (.agg vs.toArray) w:=by have:=run_loadCells_list (P:=P) (w:=w) A vs hc;rw[hl] at this;simp[Instr.loadAt,Instr.sureAddr,loadVar,ha,qta hu,this]
theorem Cells.values{b off:Nat}{C:List V}(h:Cells w Im ρ S b off C)(q n:Nat)(hn:((C.drop q).take n).length=n):
  ∃vs:List Value,vs.length=n/\(∀(j:Nat) (v:Value),vs[j]? =some v->w.cell? ((⟨b,off+q,none⟩:Addr).add j)=some v)/\
   (∀v∈vs,oneC v=true)/\∀(j:Nat) (c:V) (v:Value),((C.drop q).take n)[j]? =some c->vs[j]? =some v->VRep w Im ρ S c v:=by
 have key: ∀j,j<n->∃c,((C.drop q).take n)[j]? =some c/\C[q+j]? =some c:=fun j hj=>by
  have hj':j<((C.drop q).take n).length:=by omega
  refine⟨_,zae hj', ?_⟩;have:=zae hj';rw[zbm hj,zbv] at this;exact this
 refine⟨(List.range n).map fun j=>(w.cell? ⟨b,off+(q+j),none⟩).getD undef,by simp,fun j v hj=> ?_,fun v hv=> ?_,fun j c v hj hv=> ?_⟩
 ·have hjn:j<n:=by have:=(zad.1 hj).1;simpa using this
  obtain⟨c,_,hc⟩:=key j hjn;obtain⟨u,hu,_⟩:=h (q+j) c hc;rw[zaj,zcl hjn] at hj;simp only[zap,zaa] at hj;rw[qd6,zbq,hu];rw[hu] at hj;simpa using hj
 ·obtain⟨j,hj,rfl⟩:=za7.1 hv;obtain⟨c,_,hc⟩:=key j (zb2.1 hj);obtain⟨u,hu,ho,_⟩:=h (q+j) c hc;rw[hu];exact ho
 ·have hjn:j<n:=by have:=(zad.1 hv).1;simpa using this
  obtain⟨c',hc',hc⟩:=key j hjn;rw[hj] at hc';simp only[zaa] at hc';subst hc';obtain⟨u,hu,_,hr⟩:=h (q+j) c hc;rw[zaj,zcl hjn] at hv;simp only[zap,zaa] at hv;rw[hu] at hv;simp at hv;subst hv;exact hr
theorem qfj: ∀ {l:List V} {cs:List CV},qdu l=some cs->l=cs.map .cl
 | [],cs,h=>by simp[qdu] at h;subst h;rfl
 | v::r,cs,h=>by
  cases v with
  | cl c=>
   simp only[qdu] at h
   cases hr:qdu r with
   | none=>simp[hr] at h
   | some l=>simp[hr] at h;subst h;simp[qfj hr]
  | _=>simp[qdu] at h
theorem qps{k:IntKind}: ∀ {l:List V} {ns:List Int},qxa k l=some ns->l=ns.map fun n=>.cl (.int k n)
 | [],ns,h=>by simp[qxa] at h;subst h;rfl
 | v::r,ns,h=>by
  unfold qxa at h;split at h
  ·rename_i heq;cases heq
  ·rename_i ka n r' heq;simp only[zbc] at heq;obtain⟨rfl,rfl⟩:=heq;split at h
   ·rename_i hk hr;have hk:=of_decide_eq_true hk;subst hk;simp at h;subst h;simp[qps hr]
   ·cases h
  ·cases h
theorem VRep.mkAgg{l:List V}{vs:List Value}(hl:vs.length=l.length)(ho: ∀v∈vs,oneC v=true)(h: ∀(j:Nat) (c:V) (v:Value),l[j]? =some c->vs[j]? =some v->VRep w Im ρ S c v):
  VRep w Im ρ S (mkAgg l) (.agg vs.toArray):=by
 unfold YtoiikagnjcjccaaGreatDoorA.mkAgg
 cases hc:qdu l with
 | none=>exact .agg l vs hl ho h
 | some cs=>
  have:=qfj hc;subst this;refine .cl _ _ (.agg cs vs (by simpa using hl) ho fun j c v hj hv=>(h j (.cl c) v (by simp[hj]) hv).closed)
theorem qv2{l:List V}{v:V}(hp:qv1 P t l=some v){vs:List Value}(hl:vs.length=l.length)(ho: ∀v∈vs,oneC v=true)(h: ∀(j:Nat) (c:V) (x:Value),l[j]? =some c->vs[j]? =some x->VRep w Im ρ S c x):
  (xbfj (kd P t)=true/\l.length=qaq P t/\VRep w Im ρ S v (.agg vs.toArray))\/(oneK (kd P t)=true/\∃x,vs=[x]/\VRep w Im ρ S v x):=by
 unfold qv1 at hp;split at hp
 ·rename_i hk;obtain⟨h1,h2⟩:=qaa hp;simp only[zaa] at h2;subst h2;exact .inl ⟨by rw[hk];rfl,qag.1 h1,VRep.mkAgg hl ho h⟩
 ·rename_i n e hk;split at hp
  ·rename_i k hke;split at hp
   ·rename_i ns hns;obtain⟨h1,h2⟩:=qaa hp;simp only[zaa] at h2;subst h2;simp only[zab] at h1;have hl':=qps hns;subst hl';refine .inl ⟨by rw[hk];rfl,qag.1 h1.2, ?_⟩;have hv:vs=ns.map (.int k):=by
     refine List.ext_getElem? fun j=> ?_
     cases hj:ns[j]? with
     | none=>
      have:ns.length<=j:=by simpa using hj
      rw[zay (by simp at hl;omega),zay (by simpa using this)]
     | some m=>
      obtain⟨x,hx⟩:=getElem?_of_length hl (j:=j) (c:=.cl (.int k m)) (by simp[hj]);have hxr:VRep w Im ρ S (.cl (.int k m)) x:=h j _ x (by simp[hj]) hx;rw[hx,hxr.int];simp[hj]
    rw[hv];exact .cl _ _ (.aggi n k ns (by have:=qag.1 h1.1;simpa using this))
   ·cases hp
  ·cases hp
 ·cases hp
 ·rename_i h1 h2 h3;split at hp
  ·rename_i u;simp only[zaa] at hp;subst hp;obtain⟨x,rfl⟩: ∃x,vs=[x]:=by
    cases vs with
    | nil=>simp at hl
    | cons x r=>cases r with|nil=>exact⟨x,rfl⟩|cons y r=>simp at hl
   refine .inr ⟨?_,x,rfl,h 0 _ x rfl rfl⟩;revert h1 h2 h3;cases kd P t<;>simp[oneK]
  ·cases hp
theorem xbqu(h:xbfj (kd P t)=true): ∃d,P.underlying t=some d/\(isAgg t).run P w=.ok true w:=by
 cases hk:kd P t with
 | struct fs=>exact⟨_,qfn hk,qi7 hk w⟩
 | arr n e=>exact⟨_,qos hk,qem hk w⟩
 | _=>rw[hk] at h;cases h
theorem qpa{b off:Nat}{C:List V}(h:Cells w Im ρ S b off C){q:Nat}{v:V}(hp:qv1 P t ((C.drop q).take (qaq P t))=some v):
  ∃val,VRep w Im ρ S v val/\(Instr.loadAt t (.pointer (some ⟨b,off+q,none⟩))).run P w=.ok val w:=by
 have e:(C.drop q).take ((C.drop q).take (qaq P t)).length=(C.drop q).take (qaq P t):=by rw[zbp,List.take_eq_take_iff];omega
 obtain⟨vs,h1,h2,h4,h3⟩:=h.values q ((C.drop q).take (qaq P t)).length (by rw[e]);rw[e] at h3;rcases qv2 hp h1 h4 h3 with⟨ha,hl,hr⟩|⟨ho,x,rfl,hr⟩
 ·obtain⟨d,hd,hag⟩:=xbqu (w:=w) ha;exact⟨_,hr,qd0 hd hag (by omega) h2⟩
 ·exact⟨x,hr,qc4 ho (by simpa [qd6] using h2 0 x rfl)⟩
theorem qx2{β:Type}{k:V->Option β}{r:β}{c:CV}{e o:Nat}(h:qsa.one P t k c e o=some r){b off:Nat}(hc: ∀(j:Nat) (d:CV),(cell1 c)[j]? =some d->∃v,w.cell? ⟨b,off+j,none⟩=some v/\oneC v=true/\CRep w Im d v)(he:(cell1 c).length=e): ∃v val,k v=some r/\VRep w Im ρ S v val/\(Instr.loadAt t (.pointer (some ⟨b,off+o,none⟩))).run P w=.ok val w:=by
 have hC:Cells w Im ρ S b off ((cell1 c).map .cl):=fun j c' hj=>by
  rw[zaj] at hj
  cases hd:(cell1 c)[j]? with
  | none=>simp[hd] at hj
  | some d=>
   simp[hd] at hj;subst hj;obtain⟨v,h1,ho,h2⟩:=hc j d hd;exact⟨v,h1,ho,.cl _ _ h2⟩
 unfold qsa.one at h;split at h
 ·rename_i fs hk
  cases hb:(Nat.beq o 0&&Nat.beq e (qaq P t)) with
  | true=>
   rw[hb] at h;simp only[zab] at hb;have ho:=qag.1 hb.1;subst ho;have hes:=qag.1 hb.2;simp only[cond_true] at h;rw[show spread (qaq P t) (cell1 c)=cell1 c by rw[<- hes, <- he];exact qwo _] at h;obtain⟨hok,h⟩:=qaa h;rw[q2l hok] at h;have hp:qv1 P t ((((cell1 c).map V.cl).drop 0).take (qaq P t))=some (.cl (.agg (cell1 c))):=by
    have hl:((cell1 c).map V.cl).length=qaq P t:=by simp;omega
    rw[zbw,zbs (by omega)];unfold qv1;rw[hk];simp only;rw[show Nat.beq ((cell1 c).map V.cl).length (qaq P t)=true from qag.2 hl];simp only[cond_true,zaa];have key: ∀l:List CV,qdu (l.map V.cl)=some l:=fun l=>by
     induction l with
     | nil=>rfl
     | cons x r ih=>simp[qdu,ih]
    unfold YtoiikagnjcjccaaGreatDoorA.mkAgg;rw[key]
   obtain⟨val,h1,h2⟩:=qpa hC hp;exact⟨_,val,h,h1,by simpa using h2⟩
  | false=>
   rw[hb] at h;simp only[cond_false] at h;obtain⟨h1,h2⟩:=qaa h;have hle:o+qaq P t<=e:=by simpa using h1
   have hp:qv1 P t ((((cell1 c).map V.cl).drop o).take (qaq P t))=some (.cl (.agg (((cell1 c).drop o).take (qaq P t)))):=by
    have hm:(((cell1 c).map V.cl).drop o).take (qaq P t)=(((cell1 c).drop o).take (qaq P t)).map V.cl:=by simp[zcx,zc3]
    rw[hm];generalize hg:((cell1 c).drop o).take (qaq P t)=l;have hl:(l.map V.cl).length=qaq P t:=by rw[<- hg];simp;omega
    unfold qv1;rw[hk];simp only;rw[show Nat.beq (l.map V.cl).length (qaq P t)=true from qag.2 hl];simp only[cond_true,zaa];have:qdu (l.map V.cl)=some l:=by
     clear hg hl hm
     induction l with
     | nil=>rfl
     | cons x r ih=>simp[qdu,ih]
    unfold YtoiikagnjcjccaaGreatDoorA.mkAgg;rw[this]
   obtain⟨val,h3,h4⟩:=qpa hC hp;exact⟨_,val,h2,h3,h4⟩
 ·rename_i n e' hk;have h:(match qv1 P t ((((cell1 c).drop o).take (qaq P t)).map .cl) with|some v=>k v|none=>none)=some r:=by
   cases hb:(Nat.beq o 0&&Nat.beq e (qaq P t)) with
   | true=>
    rw[hb] at h;simp only[zab] at hb;obtain rfl:=qag.1 hb.1;have hes:=qag.1 hb.2;simp only[cond_true] at h;rw[show spread (qaq P t) (cell1 c)=cell1 c by rw[<- hes, <- he];exact qwo _] at h;obtain⟨hok,h⟩:=qaa h;rw[q2l hok] at h;rw[zbw,zbs (by omega)];exact h
   | false=>rw[hb] at h;exact h
  split at h
  ·rename_i v hp;have hp':qv1 P t ((((cell1 c).map V.cl).drop o).take (qaq P t))=some v:=by rw[<- zcx, <- zc3];exact hp
   obtain⟨val,h3,h4⟩:=qpa hC hp';exact⟨_,val,h,h3,h4⟩
  ·cases h
 ·cases h
 ·rename_i h1 h2 h3;obtain⟨hok,h⟩:=qaa h;simp only[zab] at hok;rw[xbkm hok.2] at h;have hlt:o<(cell1 c).length:=by rw[he];simpa [zb9] using hok.1
  have hd:(cell1 c)[o]? =some ((cell1 c).getD o .nili):=by rw[zae hlt];simp[hlt]
  obtain⟨v,hv,_,hr⟩:=hc o _ hd;have ho:oneK (kd P t)=true:=by revert h1 h2 h3;cases kd P t<;>simp[oneK]
  exact⟨_,v,h,.cl _ _ hr,qc4 ho hv⟩
theorem qsu{β:Type}{H:Heap}{x:V}{k:V->Option β}{r:β}{a:Value}(hob: ∀p o,qaj H p=some o->ORep w Im ρ (shOf H) o.row (ρ p))(h:qsa P H t x k=some r)(hx:VRep w Im ρ (shOf H) x a): ∃v val,k v=some r/\VRep w Im ρ (shOf H) v val/\(Instr.loadAt t a).run P w=.ok val w:=by
 have row: ∀(e:Nat) (l:List CV) (i:Nat) (c:CV),(∀c∈l,(cell1 c).length=e)->l[i]? =some c->∀(b off:Nat),(∀(j:Nat) (d:CV),(l.flatMap cell1)[j]? =some d->∃v,w.cell? ⟨b,off+j,none⟩=some v/\oneC v=true/\CRep w Im d v)->
   (∀(j:Nat) (d:CV),(cell1 c)[j]? =some d->∃v,w.cell? ⟨b,off+i*e+j,none⟩=some v/\oneC v=true/\CRep w Im d v):=by
  intro e l i c hu hi b off hc j d hj;have hje:j<e:=by have:=(zad.1 hj).1;rw[hu c (zac hi)] at this;exact this
  obtain⟨v,h1,h2⟩:=hc (i*e+j) d (by rw[qm3 j hu hi hje];exact hj);exact⟨v,by rw[zbq];exact h1,h2⟩
 unfold qsa at h;split at h
 ·rename_i rr i o
  cases hx.closed with
  | vp _ _ _ e cs b off f h1 h2 h3 h4 h6 h5=>
   split at h
   ·rename_i ka l;simp[qyi] at h1;obtain⟨rfl,rfl⟩:=h1;split at h
    ·rename_i ki hk;replace h:=qaa h;obtain⟨ho,h⟩:=h;have ho:=qag.1 ho;subst ho;split at h
     ·rename_i n hn;have hc:=h4 i (.int ka n) (by simp[hn]);have hr:=h5 i (.int ka n) (by simp[hn]);exact⟨_,_,h,.cl _ _ hr,qc4 (by rw[hk];rfl) (by simpa using hc)⟩
     ·cases h
    ·cases h
   ·rename_i e' l;simp[qyi] at h1;obtain⟨rfl,rfl⟩:=h1;split at h
    ·rename_i c hc;exact qx2 h (row e' l i c h2 hc b off fun j d hj=>⟨_,h4 j d hj,h6 j d hj,h5 j d hj⟩) (h2 c (zac hc))
    ·cases h
   ·rename_i n ka l;simp[qyi] at h1;obtain⟨rfl,rfl⟩:=h1;split at h
    ·rename_i ki hk;replace h:=qaa h;obtain⟨ho,h⟩:=h;have ho:=qag.1 ho;subst ho;split at h
     ·rename_i m hn;have hc:=h4 i (.int ka m) (by simp[hn]);have hr:=h5 i (.int ka m) (by simp[hn]);exact⟨_,_,h,.cl _ _ hr,qc4 (by rw[hk];rfl) (by simpa using hc)⟩
     ·cases h
    ·rename_i m e' hk;replace h:=qaa h;obtain⟨hb,h⟩:=h;simp only[zab] at hb;obtain⟨⟨hb1,hb2⟩,hb3⟩:=hb;have hb1:=qag.1 hb1;obtain rfl:=qag.1 hb2;obtain rfl:=qag.1 hb3;refine⟨_,_,h,.cl _ _ (.aggi n ka l h2), ?_⟩;refine qd0 (qos hk) (qem hk w) (by simp;rw[<- hb1];exact h2) fun j v hj=> ?_;rw[zaj] at hj
     cases hl:l[j]? with
     | none=>simp[hl] at hj
     | some m'=>
      simp[hl] at hj;subst hj;have hc:=h4 j (.int ka m') (by simp[hl]);have hr:=h5 j (.int ka m') (by simp[hl]);rw[qd6];cases hf:f j<;>rw[hf] at hr<;>cases hr;simpa [hf] using hc
    ·cases h
   ·rename_i n e' l;simp[qyi] at h1;obtain⟨rfl,rfl⟩:=h1;have one:(∀c,l[i]? =some c->qsa.one P t k c e' o=some r->∃v val,k v=some r/\VRep w Im ρ (shOf H) v val/\(Instr.loadAt t (.pointer (some ⟨b,off+i*e'+o,none⟩))).run P w=.ok val w):=fun c hc h=>
     qx2 h (row e' l i c h2.2 hc b off fun j d hj=>⟨_,h4 j d hj,h6 j d hj,h5 j d hj⟩) (h2.2 c (zac hc))
    split at h
    ·rename_i m e2 hk
     cases hb:(Nat.beq (n*e') (qaq P t)&&Nat.beq i 0&&Nat.beq o 0) with
     | true=>
      rw[hb] at h;simp only[cond_true] at h;simp only[zab] at hb;obtain⟨⟨hb1,hb2⟩,hb3⟩:=hb;have hb1:=qag.1 hb1;obtain rfl:=qag.1 hb2;obtain rfl:=qag.1 hb3;have hlen:(l.flatMap cell1).length=n*e':=by rw[qbr h2.2,h2.1]
      refine⟨_,.agg ((List.range (n*e')).map f).toArray,h,.cl _ _ (.agga n e' l _ h2.1 h2.2 (by simp[hlen]) (fun v hv=>by
       obtain⟨j,hj,rfl⟩:=za7.1 hv;exact h6 j _ (zae (by rw[hlen];exact zb2.1 hj))) fun j c v hj hv=> ?_), ?_⟩
      ·have hjn:j<n*e':=by have:=(zad.1 hj).1;omega
       rw[zaj,zcl hjn] at hv;simp at hv;subst hv;exact h5 j c hj
      ·refine qd0 (qos hk) (qem hk w) (by simp[hb1]) fun j v hj=> ?_;have hjn:j<n*e':=by have:=(zad.1 hj).1;simpa using this
       rw[zaj,zcl hjn] at hj;simp at hj;subst hj;have hc:=h4 j _ (zae (by omega));rw[qd6];simpa using hc
     | false=>
      rw[hb] at h;simp only[cond_false] at h;split at h
      ·rename_i c hc;exact one c hc h
      ·cases h
    ·split at h
     ·rename_i c hc;exact one c hc h
     ·cases h
   ·rename_i l;simp[qyi] at h1;obtain⟨rfl,rfl⟩:=h1;replace h:=qaa h;obtain⟨hi,h⟩:=h;obtain rfl:=qag.1 hi;have:=qx2 (c:=.agg l) (ρ:=ρ) (S:=shOf H) h (b:=b) (off:=off) (fun j d hj=>⟨_,h4 j d hj,h6 j d hj,h5 j d hj⟩) rfl;simpa using this
   ·cases h
 ·rename_i p n e;split at h
  ·rename_i ob m e' hp hk;replace h:=qaa h;obtain⟨hsz,h⟩:=h;have hsz:=qag.1 hsz;have hS:shOf H p=some (shp ob):=by simp[shOf,hp]
   cases hx with
   | aptrN _ _ _ _ h0=>rw[hS] at h0;cases h0
   | aptr _ _ _ b base lim h1 h2=>
    rw[hS] at h1;simp only[zaa] at h1;have hO:=hob p ob hp;rw[h2] at hO;obtain⟨hok,_,_,_,hcells⟩:=hO;split at h
    ·rename_i m' ka l hrow;rw[hrow] at hok hcells;have hn:m'=n:=by have:=congrArg Sh.len h1;simpa [shp,hrow,Rw.len] using this
     have he:e=1:=by have:=congrArg Sh.esz h1;simpa [shp,hrow,Rw.esz] using this.symm
     subst hn he;refine⟨_,_,h,.cl _ _ (.aggi m' ka l hok), ?_⟩;refine qd0 (qos hk) (qem hk w) (by simp;rw[<- hsz,zdr];exact hok) fun j v hj=> ?_;rw[zaj] at hj
     cases hl:l[j]? with
     | none=>simp[hl] at hj
     | some z=>
      simp[hl] at hj;subst hj;obtain⟨v,hv,_,hr⟩:=hcells j (.cl (.int ka z)) (by simp[qaf,hl]);rw[qd6,hv,hr.int]
    ·rename_i m' es l hrow;rw[hrow] at hok hcells;have hn:m'=n:=by have:=congrArg Sh.len h1;simpa [shp,hrow,Rw.len] using this
     have he:es=e:=by have:=congrArg Sh.esz h1;simpa [shp,hrow,Rw.esz] using this
     subst hn he;have hlen:(l.flatMap cell1).length=m'*es:=by rw[qbr hok.2,hok.1]
     have hC:Cells w Im ρ (shOf H) b base ((l.flatMap cell1).map .cl):=fun j c hj=>hcells j c hj;obtain⟨vs,g1,g2,g4,g3⟩:=hC.values 0 (m'*es) (by simp[hlen]);simp only[zbw] at g3;rw[zbs (by simp[hlen])] at g3;refine⟨_,.agg vs.toArray,h,.cl _ _ (.agga m' es l vs hok.1 hok.2 (by omega) g4 fun j c v hj hv=>(g3 j (.cl c) v (by simp[hj]) hv).closed), ?_⟩;exact qd0 (qos hk) (qem hk w) (by omega) (by simpa using g2)
    ·cases h
  ·cases h
 ·rename_i p i o;split at h
  ·rename_i ob hp;have hS:shOf H p=some (shp ob):=by simp[shOf,hp]
   cases hx with
   | ptrN _ _ _ _ h0=>rw[hS] at h0;cases h0
   | ptr _ _ _ s b base lim h1 h2 h3=>
    rw[hS] at h1;simp only[zaa] at h1;subst h1;have hO:=hob p ob hp;rw[h2] at hO;obtain⟨hok,_,_,_,hcells⟩:=hO;split at h
    ·rename_i ka l hrow;rw[hrow] at hok hcells;have he:(shp ob).esz=1:=by simp[shp,hrow,Rw.esz]
     rw[he];split at h
     ·rename_i ki hk;replace h:=qaa h;obtain⟨ho,h⟩:=h;obtain rfl:=qag.1 ho;split at h
      ·rename_i n hn;obtain⟨v,hv,_,hr⟩:=hcells i (.cl (.int ka n)) (by simp[qaf,hn]);exact⟨_,v,h,hr,qc4 (by rw[hk];rfl) (by simpa using hv)⟩
      ·cases h
     ·cases h
    ·rename_i m ka l hrow;rw[hrow] at hok hcells;have he:(shp ob).esz=1:=by simp[shp,hrow,Rw.esz]
     rw[he];split at h
     ·rename_i ki hk;replace h:=qaa h;obtain⟨ho,h⟩:=h;obtain rfl:=qag.1 ho;split at h
      ·rename_i n hn;obtain⟨v,hv,_,hr⟩:=hcells i (.cl (.int ka n)) (by simp[qaf,hn]);exact⟨_,v,h,hr,qc4 (by rw[hk];rfl) (by simpa using hv)⟩
      ·cases h
     ·cases h
    ·rename_i e l hrow;rw[hrow] at hok hcells;have he:(shp ob).esz=e:=by simp[shp,hrow,Rw.esz]
     rw[he];split at h
     ·rename_i c hc;exact qx2 h (row e l i c hok hc b base fun j d hj=>by
       obtain⟨v,hv,ho,hr⟩:=hcells j (.cl d) (by simp[qaf,hj]);exact⟨v,hv,ho,hr.closed⟩) (hok c (zac hc))
     ·cases h
    ·rename_i m e l hrow;rw[hrow] at hok hcells;have he:(shp ob).esz=e:=by simp[shp,hrow,Rw.esz]
     rw[he];split at h
     ·rename_i c hc;exact qx2 h (row e l i c hok.2 hc b base fun j d hj=>by
       obtain⟨v,hv,ho,hr⟩:=hcells j (.cl d) (by simp[qaf,hj]);exact⟨v,hv,ho,hr.closed⟩) (hok.2 c (zac hc))
     ·cases h
    ·rename_i l hrow;rw[hrow] at hcells;replace h:=qaa h;obtain⟨hi,h⟩:=h;obtain rfl:=qag.1 hi;split at h
     ·rename_i v hp';obtain⟨val,h4,h5⟩:=qpa (t:=t) (fun j c hj=>hcells j c hj) hp';exact⟨_,val,h,h4,by simpa using h5⟩
     ·cases h
  ·cases h
 ·cases h
end
section
variable {P:Program} {w:World} {Im:Nat->Prop} {ρ:Nat->Loc} {S:Nat->Option Sh}
theorem qx0(v:Value):VRep w Im ρ S (qnv v) v:=by unfold qnv;split<;>first|exact .cl _ _ (by constructor)|exact .nils|exact .undef _
theorem qr3{t:TypeId}{z:V}(h:q7t P t=some z): ∃val,VRep w Im ρ S z val/\(zeroValue t).run P w=.ok val w:=by
 unfold q7t at h;split at h
 ·rename_i i hi;split at h
  ·rename_i cs hz;replace h:=qaa h;obtain⟨hk,h⟩:=h;simp only[zab,zai] at hk;obtain⟨hk,hone⟩:=hk;have hl:cs.toList.length=(cs.toList.map qnv).length:=by simp
   have hr: ∀(j:Nat) (c:V) (x:Value),(cs.toList.map qnv)[j]? =some c->cs.toList[j]? =some x->VRep w Im ρ S c x:=fun j c x hj hx=>by rw[zaj,hx] at hj;simp at hj;subst hj;exact qx0 x
   rcases qv2 h hl hone hr with⟨_,_,h1⟩|⟨ho,x,hx,h1⟩
   ·exact⟨_,h1,by simp[zeroValue,typeInfo,hi,hz]⟩
   ·revert hk ho;cases kd P t<;>simp[xbfj,oneK]
  ·rename_i v _ hz;simp only[zaa] at h;subst h;exact⟨v,qx0 v,by simp[zeroValue,typeInfo,hi,hz]⟩
  ·cases h
 ·cases h
theorem qdy{β:Type}{n:Int}{len:Nat}{k:Nat->Option β}{r:β}(h:idxK n len k=some r):0<=n/\n<(len:Int)/\n.toNat<len/\k n.toNat=some r:=by unfold idxK at h;replace h:=qaa h;obtain⟨h1,h⟩:=h;replace h:=qaa h;obtain⟨h2,h⟩:=h;have h1:=of_decide_eq_true h1;have h2:=of_decide_eq_true h2;exact⟨h1,h2,by omega,h⟩
theorem q8o{v:Value}: ∀ {p:Nat},anyP p v->oneC v=true
 | 0,h=>by rcases h with rfl|⟨t,x,rfl⟩<;>rfl
 | 1,h=>by obtain⟨m,rfl⟩:=h;rfl
 | _+2,h=>h
theorem q26{v:Value}(h:oneC v=true):v.cells= #[v]:=by cases v<;>first|rfl|cases h
theorem qh5{v:V}{x:Value}(h:VRep w Im ρ S v x)(hn:okV v=true):x.cells.toList.length=(qd7 v).length/\(∀v∈x.cells.toList,oneC v=true)/\∀(j:Nat) (c:V) (y:Value),(qd7 v)[j]? =some c->x.cells.toList[j]? =some y->VRep w Im ρ S c y:=by
 have one: ∀(v:V) (x:Value),VRep w Im ρ S v x->qd7 v=[v]->x.cells= #[x]->oneC x=true->x.cells.toList.length=(qd7 v).length/\(∀v∈x.cells.toList,oneC v=true)/\∀(j:Nat) (c:V) (y:Value),(qd7 v)[j]? =some c->x.cells.toList[j]? =some y->VRep w Im ρ S c y:=by
  intro v x h h1 h2 h3;rw[h1,h2];refine⟨rfl,by simpa using h3,fun j c y hj hy=> ?_⟩
  cases j with
  | zero=>simp at hj hy;subst hj hy;exact h
  | succ j=>simp at hj
 cases h with
 | undef v=>cases hn
 | cl c v h=>
  have h':=h
  cases h with
  | agg l vs h1 h3 h2=>exact⟨by simp[Value.cells,qd7,qxh,h1],by simpa [Value.cells] using h3,fun j c y hj hy=>by
    simp[qd7,qxh] at hj;obtain⟨d,hd,rfl⟩:=hj;exact .cl _ _ (h2 j d y hd (by simpa [Value.cells] using hy))⟩
  | aggi n k l h1=>exact⟨by simp[Value.cells,qd7,qxh],by simp[Value.cells,oneC],fun j c y hj hy=>by
    simp[qd7,qxh] at hj;obtain⟨d,hd,rfl⟩:=hj;simp[Value.cells,hd] at hy;subst hy;exact .ofInt _ _⟩
  | agga n e l vs h1 h2 h3 h5 h4=>exact⟨by simp only[Value.cells,qd7,qxh,zam];exact h3,by simpa [Value.cells] using h5,fun j c y hj hy=>by
    simp only[qd7,qxh,zaj] at hj
    cases hd:(l.flatMap cell1)[j]? with
    | none=>rw[hd] at hj;cases hj
    | some d=>
     rw[hd] at hj;simp only[zap,zaa] at hj;subst hj;exact .cl _ _ (h4 j d y hd (by simpa [Value.cells] using hy))⟩
  | any p v hp=>exact one _ _ (.cl _ _ h') rfl (q26 (q8o hp)) (q8o hp)
  | is c v hp _=>exact one _ _ (.cl _ _ h') rfl (q26 hp) hp
  | _=>exact one _ _ (.cl _ _ h') rfl rfl rfl
 | nils=>exact one _ _ .nils rfl rfl rfl
 | agg l vs h1 h3 h2=>exact⟨by simp[Value.cells,qd7,h1],by simpa [Value.cells] using h3,fun j c y hj hy=>h2 j c y hj (by simpa [Value.cells] using hy)⟩
 | tup l vs h1 h2=>cases hn
 | iface t c v h=>exact one _ _ (.iface t c v h) rfl rfl rfl
 | fn f a b va vb h1 h2 h3 h4=>exact one _ _ (.fn f a b va vb h1 h2 h3 h4) rfl rfl rfl
 | ptrN p i o ad h=>exact one _ _ (.ptrN p i o ad h) rfl rfl rfl
 | ptr p i o s b base lim h1 h2 h3=>exact one _ _ (.ptr p i o s b base lim h1 h2 h3) rfl rfl rfl
 | aptrN p n e ad h=>exact one _ _ (.aptrN p n e ad h) rfl rfl rfl
 | aptr p n e b base lim h1 h2=>exact one _ _ (.aptr p n e b base lim h1 h2) rfl rfl rfl
 | refN p o len tip e a cap h h1 h2=>exact one _ _ (.refN p o len tip e a cap h h1 h2) rfl rfl rfl
 | refV p s tip e h1 h2 h3 h4=>exact one _ _ (.refV p s tip e h1 h2 h3 h4) rfl rfl rfl
 | ref p o len tip e s b base lim ad cap h1 h2 h3 h4 h5 h6 h7 h8=>exact one _ _ (.ref p o len tip e s b base lim ad cap h1 h2 h3 h4 h5 h6 h7 h8) rfl rfl rfl
def Pure(P:Program)(w:World)(Im:Nat->Prop)(ρ:Nat->Loc)(S:Nat->Option Sh){β:Type}(k:V->Option β)(r:β)(run:Sem Value):Prop:=
 ∃v val,k v=some r/\VRep w Im ρ S v val/\run.run P w=.ok val w
theorem qyc{β:Type}{x:V}{a:Value}{k:V->Option β}{r:β}(h:qhd x k=some r)(hx:VRep w Im ρ S x a):
  k x=some r/\((∃ad,a=.pointer (some ad))\/∃f p q,a=.func (.func f) p q):=by
 unfold qhd at h;split at h
 ·cases hx with
  | ptrN _ _ _ ad _=>exact⟨h,.inl ⟨ad,rfl⟩⟩
  | ptr=>exact⟨h,.inl ⟨_,rfl⟩⟩
 ·cases hx with
  | aptrN _ _ _ ad _=>exact⟨h,.inl ⟨ad,rfl⟩⟩
  | aptr=>exact⟨h,.inl ⟨_,rfl⟩⟩
 ·cases hx.closed;exact⟨h,.inl ⟨_,rfl⟩⟩
 ·cases hx.closed;exact⟨h,.inr ⟨_,_,_,rfl⟩⟩
 ·cases hx;exact⟨h,.inr ⟨_,_,_,rfl⟩⟩
 ·cases h
theorem qb5{e:TypeId}(h:qaq P e≠0): ∃i,P.info? e=some i/\i.size=qaq P e:=by
 unfold qaq at*
 cases hi:P.info? e with
 | none=>rw[hi] at h;exact absurd rfl h
 | some i=>exact⟨i,rfl,rfl⟩
theorem qa7{a b:Nat}(h:Nat.beq a b=false):a≠b:=fun e=>by rw[e,zbk] at h;cases h
theorem qwc{β:Type}{t:TypeId}{f:Nat}{x:V}{a:Value}{k:V->Option β}{r:β}(h:qe9 P t f x k=some r)(hx:VRep w Im ρ S x a):
  Pure P w Im ρ S k r (Instr.fieldAt t a f):=by
 unfold qe9 at h;split at h
 ·rename_i fs hk;split at h
  ·rename_i fd hf;replace h:=qaw h;obtain⟨hz,h⟩:=h;obtain⟨i,hi,his⟩:=qb5 (qa7 hz);have hi0:i.size≠0:=by rw[his];exact qa7 hz
   have run: ∀ad:Addr,(Instr.fieldAt t (.pointer (some ad)) f).run P w=.ok (.pointer (some (ad.add fd.offset))) w:=fun ad=>by simp[Instr.fieldAt,underlying,qfn hk,hf,Instr.sureAddr,fieldPlace,sizeOf,typeInfo,hi,hi0]
   split at h
   ·rename_i p i o
    cases hx with
    | ptrN _ _ _ ad hS=>exact⟨_,_,h,.ptrN _ _ _ _ hS,run ad⟩
    | ptr _ _ _ s b base lim h1 h2 h3=>exact⟨_,_,h,.ptr _ _ _ s b base lim h1 h2 h3,by rw[run,qd6,zbq _ o]⟩
   ·rename_i rr i o
    cases hx.closed with
    | vp _ _ _ e cs b off g h1 h2 h3 h4 h6 h5=>exact⟨_,_,h,.cl _ _ (.vp rr i (o+fd.offset) e cs b off g h1 h2 h3 h4 h6 h5),by rw[run,qd6,zbq _ o]⟩
   ·cases h
  ·cases h
 ·cases h
theorem qc3{t e:TypeId}(hk:kd P t=.slice e){ad:Addr}{len cap:Nat}{ki:IntKind}{n:Int}(h0:0<=n)(h1:n<(len:Int)){i:TypeInfo}(hi:P.info? e=some i):
  (Instr.indexAt t (.slice (some ad) len cap) (.int ki n)).run P w=.ok (.pointer (some (ad.add (n.toNat*i.size)))) w:=by
 simp[Instr.indexAt,asIntOf,underlying,qcd hk,h0,h1,sizeOf,typeInfo,hi]
theorem qbu{t e:TypeId}{m:Nat}(hk:kd P t=.arr m e){ad:Addr}{ki:IntKind}{n:Int}(h0:0<=n)(h1:n<(m:Int)){i:TypeInfo}(hi:P.info? e=some i):
  (Instr.indexAt t (.pointer (some ad)) (.int ki n)).run P w=.ok (.pointer (some (ad.add (n.toNat*i.size)))) w:=by
 simp[Instr.indexAt,asIntOf,underlying,qos hk,h0,h1,sizeOf,typeInfo,hi,Instr.sureAddr]
theorem q2p{w:World}{ad:Addr}{v:Value}(h:w.cell? (ad.add 0)=some v):ad=⟨ad.block,ad.off,none⟩:=by
 have h:w.cell? ad=some v:=by simpa [Addr.add] using h
 unfold World.cell? at h;split at h
 ·split at h
  ·cases h
  ·rename_i hs;cases ad;simp at hs;simp[hs]
 ·cases h
theorem xbg6{ki:IntKind}{l:List Int}{a:Value}(h:CRep w Im (.sli ki l) a){j:Nat}(hj:j<l.length):
  ∃ad cap,a=.slice (some ad) l.length cap/\∀o,CRep w Im (.vp (.sli ki l) j o) (.pointer (some ((ad.add (j*1)).add o))):=by
 cases h with
 | sli _ _ a len cap h1 h2 h3=>
  obtain⟨ad,rfl,hb,hc⟩:=h3 0 _ (zae (by omega));have hs:=q2p hc;refine⟨ad,cap,by rw[h1],fun o=> ?_⟩;rw[hs,qd6,qd6];refine .vp _ j o 1 _ ad.block ad.off (fun j=>((l.map (Value.int ki))[j]?).getD undef) rfl trivial hb (fun i c hi=> ?_) (fun i c hi=> ?_) (fun i c hi=> ?_)
  ·simp at hi;obtain⟨n,hn,rfl⟩:=hi;obtain⟨ad',e,_,hc'⟩:=h3 i n hn;simp only[zaa] at e;subst e;rw[hs,qd6] at hc';simpa [hn] using hc'
  ·simp at hi;obtain⟨n,hn,rfl⟩:=hi;simp[hn,oneC]
  ·simp at hi;obtain⟨n,hn,rfl⟩:=hi;simp[hn];exact .int _ _
theorem xbg4{e:Nat}{l:List CV}{a:Value}(h:CRep w Im (.slg e l) a)(he:e≠0){j:Nat}(hj:j<l.length):
  ∃ad cap,a=.slice (some ad) l.length cap/\∀o,CRep w Im (.vp (.slg e l) j o) (.pointer (some ((ad.add (j*e)).add o))):=by
 cases h with
 | slg _ _ a len cap f h1 h2 h3 h4 h6 h5=>
  have hl0:(l.flatMap cell1).length=l.length*e:=qbr h1;have hpos:0<l.length*e:=Nat.mul_pos (by omega) (by omega);obtain⟨ad,rfl,hb,hc⟩:=h4 0 _ (zae (by omega));have hs:=q2p hc;refine⟨ad,cap,by rw[h2],fun o=> ?_⟩;rw[hs,qd6,qd6];refine .vp _ j o e _ ad.block ad.off f rfl h1 hb (fun i c hi=> ?_) h6 h5;obtain⟨ad',e',_,hc'⟩:=h4 i c hi;simp only[zaa] at e';subst e';rw[hs,qd6] at hc';exact hc'
theorem qwd{β:Type}{t:TypeId}{x y:V}{a b:Value}{k:V->Option β}{r:β}(h:qfa P t x y k=some r)(hx:VRep w Im ρ S x a)(hy:VRep w Im ρ S y b):
  Pure P w Im ρ S k r (Instr.indexAt t a b):=by
 unfold qfa at h;split at h
 ·rename_i ki n;obtain rfl:=hy.int;split at h
  ·rename_i e p o len tip es hk;replace h:=qaa h;obtain⟨hes,h⟩:=h;simp only[zab,zao] at hes;obtain⟨hes,hz⟩:=hes;obtain rfl:=qag.1 hes;obtain⟨h0,h1,h2,h⟩:=qdy h;obtain⟨i,hi,his⟩:=qb5 (qa7 hz)
   cases hx with
   | refN _ _ _ _ _ a cap hS hl ha=>
    obtain⟨ad,rfl⟩: ∃ad,a=some ad:=by have:=ha (by omega);cases a with|none=>cases this|some ad=>exact⟨ad,rfl⟩
    exact⟨_,_,h,.ptrN _ _ _ _ hS,qc3 hk h0 h1 hi⟩
   | refV _ s _ _ g1 g2 g3 g4=>omega
   | ref _ _ _ _ _ s b base lim ad cap g1 g2 g3 g4 g5 g6 g7 g8=>
    refine⟨_,_,h,.ptr p (o+n.toNat) 0 s b base lim g1 g2 (by omega), ?_⟩;rw[qc3 hk h0 h1 hi,g7 (by omega),qd6,his,g3,zdc];simp[zbq]
  ·rename_i e ki' l hk;replace h:=qaa h;obtain⟨hes,h⟩:=h;have hes:=qag.1 hes;obtain⟨h0,h1,h2,h⟩:=qdy h;obtain⟨i,hi,his⟩:=qb5 (P:=P) (e:=e) (by omega);obtain⟨ad,cap,rfl,hp⟩:=xbg6 hx.closed h2;refine⟨_,_,h,.cl _ _ (hp 0), ?_⟩;rw[qc3 hk h0 h1 hi,his,hes];simp[Addr.add]
  ·rename_i e es l hk;replace h:=qaa h;obtain⟨hes,h⟩:=h;simp only[zab,zao] at hes;obtain⟨hes,hz⟩:=hes;obtain rfl:=qag.1 hes;obtain⟨h0,h1,h2,h⟩:=qdy h;obtain⟨i,hi,his⟩:=qb5 (qa7 hz);obtain⟨ad,cap,rfl,hp⟩:=xbg4 hx.closed (qa7 hz) h2;refine⟨_,_,h,.cl _ _ (hp 0), ?_⟩;rw[qc3 hk h0 h1 hi,his];simp[Addr.add]
  ·rename_i m e p m' es hk;replace h:=qaa h;obtain⟨hes,h⟩:=h;simp only[zab,zao] at hes;obtain⟨⟨hm,hes⟩,hz⟩:=hes;obtain rfl:=qag.1 hes;obtain rfl:=qag.1 hm;obtain⟨h0,h1,h2,h⟩:=qdy h;obtain⟨i,hi,his⟩:=qb5 (qa7 hz)
   cases hx with
   | aptrN _ _ _ ad hS=>exact⟨_,_,h,.ptrN _ _ _ _ hS,qbu hk h0 h1 hi⟩
   | aptr _ _ _ b base lim g1 g2=>
    refine⟨_,_,h,.ptr p n.toNat 0 _ b base lim g1 g2 h2, ?_⟩;rw[qbu hk h0 h1 hi,qd6,his];simp
  ·rename_i m e p i0 o0 hk;replace h:=qaa h;obtain⟨hz,h⟩:=h;simp only[zao] at hz;obtain⟨h0,h1,h2,h⟩:=qdy h;obtain⟨i,hi,his⟩:=qb5 (qa7 hz)
   cases hx with
   | ptrN _ _ _ ad hS=>exact⟨_,_,h,.ptrN _ _ _ _ hS,qbu hk h0 h1 hi⟩
   | ptr _ _ _ s b base lim g1 g2 g3=>
    refine⟨_,_,h,.ptr p i0 (o0+n.toNat*qaq P e) s b base lim g1 g2 g3, ?_⟩;rw[qbu hk h0 h1 hi,qd6,his,zbq _ o0]
  ·rename_i m e m' ki' l hk;replace h:=qaa h;obtain⟨hes,h⟩:=h;simp only[zab] at hes;obtain⟨hm,hes⟩:=hes;have hes:=qag.1 hes;obtain⟨h0,h1,h2,h⟩:=qdy h;obtain⟨i,hi,his⟩:=qb5 (P:=P) (e:=e) (by omega)
   cases hx.closed with
   | vp _ _ _ e' cs b off g g1 g2 g3 g4 g6 g5=>
    refine⟨_,_,h,.cl _ _ (.vp _ n.toNat 0 e' cs b off g g1 g2 g3 g4 g6 g5), ?_⟩;simp only[qyi,zaa,zbb] at g1;rw[qbu hk h0 h1 hi,qd6,his,hes, <- g1.1];simp
  ·rename_i m e m' es l i0 o0 hk;rcases qb3 h with⟨hes,q⟩|⟨_,q⟩
   ·simp only[zab,zao] at hes;obtain⟨⟨⟨⟨hm,hes⟩,hz⟩,e0⟩,e1⟩:=hes;obtain rfl:=qag.1 e0;obtain rfl:=qag.1 e1;obtain rfl:=qag.1 hes;obtain⟨h0,h1,h2,q⟩:=qdy q;obtain⟨i,hi,his⟩:=qb5 (qa7 hz)
    cases hx.closed with
    | vp _ _ _ e' cs b off g g1 g2 g3 g4 g6 g5=>
     refine⟨_,_,q,.cl _ _ (.vp _ n.toNat 0 e' cs b off g g1 g2 g3 g4 g6 g5), ?_⟩;simp only[qyi,zaa,zbb] at g1;rw[qbu hk h0 h1 hi,qd6,his, <- g1.1];simp
   ·obtain⟨hz,q⟩:=qaw q;obtain⟨h0,h1,h2,q⟩:=qdy q;obtain⟨i,hi,his⟩:=qb5 (qa7 hz)
    cases hx.closed with
    | vp _ _ _ e' cs b off g g1 g2 g3 g4 g6 g5=>
     refine⟨_,_,q,.cl _ _ (.vp _ i0 (o0+n.toNat*qaq P e) e' cs b off g g1 g2 g3 g4 g6 g5), ?_⟩;rw[qbu hk h0 h1 hi,qd6,his,zbq _ o0]
  ·cases h
 ·cases h
theorem qrg{t:TypeId}{d:TypeDesc}(hu:P.underlying t=some d)(ha:(isAgg t).run P w=.ok true w)(cs:Array Value)(off:Nat):
  (part t cs off).run P w=.ok (.agg (cs.extract off (off+qaq P t))) w:=by
 simp[part,ha,qta hu]
theorem qrh{t:TypeId}(ho:oneK (kd P t)=true){cs:Array Value}{off:Nat}{v:Value}(hv:cs[off]? =some v):
  (part t cs off).run P w=.ok v w:=by
 simp[part,qon ho,hv]
theorem xbbs{t:TypeId}{l:List V}{vs:List Value}{off:Nat}{v:V}(hp:qv1 P t ((l.drop off).take (qaq P t))=some v)(hl:vs.length=l.length)(ho: ∀v∈vs,oneC v=true)(h: ∀(j:Nat) (c:V) (x:Value),l[j]? =some c->vs[j]? =some x->VRep w Im ρ S c x): ∃val,VRep w Im ρ S v val/\(part t vs.toArray off).run P w=.ok val w:=by
 have h1:((vs.drop off).take (qaq P t)).length=((l.drop off).take (qaq P t)).length:=by simp[hl]
 have h2: ∀(j:Nat) (c:V) (x:Value),((l.drop off).take (qaq P t))[j]? =some c->((vs.drop off).take (qaq P t))[j]? =some x->VRep w Im ρ S c x:=by
  intro j c x hj hx;have hjl:j<qaq P t:=by have:=(zad.1 hj).1;simp at this;omega
  rw[zbm hjl,zbv] at hj hx;exact h _ _ _ hj hx
 rcases qv2 hp h1 (fun v hv=>ho v (zbi (zba hv))) h2 with⟨ha,hs,hr⟩|⟨ho,x,hx,hr⟩
 ·obtain⟨d,hd,hag⟩:=xbqu (w:=w) ha;refine⟨_,hr, ?_⟩;rw[qrg hd hag];congr 2;simp[List.extract_eq_take_drop]
 ·refine⟨x,hr,qrh ho ?_⟩;have:((vs.drop off).take (qaq P t))[0]? =some x:=by rw[hx];rfl
  have hlt:0<qaq P t:=by
   rcases Nat.eq_zero_or_pos (qaq P t) with e|e
   ·rw[e] at this;simp at this
   ·exact e
  rw[zbm hlt,zbv] at this;simpa using this
theorem xbb2{β:Type}{t:TypeId}{f:Nat}{x:V}{a:Value}{k:V->Option β}{r:β}(h:q0x P t f x k=some r)(hx:VRep w Im ρ S x a):
  Pure P w Im ρ S k r (Instr.field t a f):=by
 unfold q0x at h;split at h
 ·rename_i fs hk;split at h
  ·rename_i fd hf;split at h
   ·rename_i l
    cases hx.closed with
    | agg _ vs h1 h5 h2=>
     split at h
     ·rename_i v hp;have hm:((l.drop fd.offset).take (qaq P fd.type)).map V.cl=((l.map V.cl).drop fd.offset).take (qaq P fd.type):=by simp[zcx,zc3]
      rw[hm] at hp;obtain⟨val,h3,h4⟩:=xbbs (ρ:=ρ) (S:=S) hp (vs:=vs) (by simpa using h1) h5 fun j c x hj hx=>by simp at hj;obtain⟨d,hd,rfl⟩:=hj;exact .cl _ _ (h2 j d x hd hx)
      exact⟨_,val,h,h3,by simp[Instr.field,underlying,qfn hk,hf,asAgg,h4]⟩
     ·cases h
   ·rename_i l
    cases hx with
    | agg _ vs h1 h5 h2=>
     split at h
     ·rename_i v hp;obtain⟨val,h3,h4⟩:=xbbs hp h1 h5 h2;exact⟨_,val,h,h3,by simp[Instr.field,underlying,qfn hk,hf,asAgg,h4]⟩
     ·cases h
   ·cases h
  ·cases h
 ·cases h
theorem q1m{β:Type}{x:V}{i:Nat}{a:Value}{k:V->Option β}{r:β}(h:qkt x i k=some r)(hx:VRep w Im ρ S x a):
  Pure P w Im ρ S k r (Instr.extract a i):=by
 unfold qkt at h;split at h
 ·rename_i l;split at h
  ·rename_i v hv
   cases hx with
   | tup _ vs h1 h2=>
    obtain⟨y,hy⟩:=getElem?_of_length h1 hv;exact⟨_,y,h,h2 i v y hv hy,by simp[Instr.extract,hy]⟩
  ·cases h
 ·cases h
end
end Go.Proofs.YtoiikagnjcjccaaGreatDoorA
