/-
 A stretch in which an object was lent, and after which it is changed again. Conditions: none.
-/
import Derived.Test.YtoiikagnjcjccaaGreatDoorK2b
import Derived.Orders
import Derived.OrdersIn
import Derived.KernelRfl
import Derived.IntWalk
import Derived.WalkKit
import Derived.ProofKit
import Derived.OpenShut
import Derived.ChangeMaps5
set_option linter.unusedVariables false
set_option linter.unusedSimpArgs false
set_option maxRecDepth 100000
namespace Go.Proofs.YtoiikagnjcjccaaGreatDoorA
def only(f:St->Option Out):Ex->St->Option Out:=fun ex σ=>match ex with|.normal=>f σ|_=>none
section
variable {P:Program} {E:Env} {w0:Base} {bl I0:Nat->Prop} {N:Nat} {r:Out}
end
section
variable {P:Program} {β:Type} {r:β}
theorem qb8{n:Int}{len:Nat}{k:Nat->Option β}(h:idxK n len k=some r): ∃j,k j=some r/\∀ {γ:Type} (k':Nat->Option γ),idxK n len k'=k' j:=by unfold idxK at h;replace h:=qaa h;obtain⟨h1,h⟩:=h;replace h:=qaa h;obtain⟨h2,h⟩:=h;exact⟨_,h,fun k'=>by simp only[idxK,h1,h2,cond_true]⟩
theorem xbjo{op:BinOp}{t:TypeId}{x y:V}{k:V->Option β}(h:binK P op t x y k=some r): ∃v,k v=some r/\∀ {γ:Type} (k':V->Option γ),binK P op t x y k'=k' v:=by
 unfold binK at h
 repeat' (first|(dsimp only at h)|(split at h)|(replace h:=qaa h;obtain⟨_,h⟩:=h)|(replace h:=qaw h;obtain⟨_,h⟩:=h)|(replace h:=qb8 h;obtain⟨_,h,_⟩:=h;try dsimp only at h)|(replace h:=qb3 h;rcases h with⟨_,h⟩|⟨_,h⟩))
 all_goals first|(cases h;done)|exact⟨_,h,fun k'=>by simp only[binK,idxK,cond_true,cond_false,if_true,if_false,zan, *]⟩
theorem xbsn{op:UnOp}{x:V}{k:V->Option β}(h:unK op x k=some r): ∃v,k v=some r/\∀ {γ:Type} (k':V->Option γ),unK op x k'=k' v:=by
 unfold unK at h
 repeat' (first|(dsimp only at h)|(split at h)|(replace h:=qaa h;obtain⟨_,h⟩:=h)|(replace h:=qaw h;obtain⟨_,h⟩:=h)|(replace h:=qb8 h;obtain⟨_,h,_⟩:=h;try dsimp only at h)|(replace h:=qb3 h;rcases h with⟨_,h⟩|⟨_,h⟩))
 all_goals first|(cases h;done)|exact⟨_,h,fun k'=>by simp only[unK,idxK,cond_true,cond_false,if_true,if_false,zan, *]⟩
theorem xbju{x:V}{k:V->Option β}(h:qhd x k=some r): ∃v,k v=some r/\∀ {γ:Type} (k':V->Option γ),qhd x k'=k' v:=by
 unfold qhd at h
 repeat' (first|(dsimp only at h)|(split at h)|(replace h:=qaa h;obtain⟨_,h⟩:=h)|(replace h:=qaw h;obtain⟨_,h⟩:=h)|(replace h:=qb8 h;obtain⟨_,h,_⟩:=h;try dsimp only at h)|(replace h:=qb3 h;rcases h with⟨_,h⟩|⟨_,h⟩))
 all_goals first|(cases h;done)|exact⟨_,h,fun k'=>by simp only[qhd,idxK,cond_true,cond_false,if_true,if_false,zan, *]⟩
theorem qv4{src dst:TypeId}{x:V}{k:V->Option β}(h:xbhs P src dst x k=some r): ∃v,k v=some r/\∀ {γ:Type} (k':V->Option γ),xbhs P src dst x k'=k' v:=by
 unfold xbhs at h
 repeat' (first|(dsimp only at h)|(split at h)|(replace h:=qaa h;obtain⟨_,h⟩:=h)|(replace h:=qaw h;obtain⟨_,h⟩:=h)|(replace h:=qb8 h;obtain⟨_,h,_⟩:=h;try dsimp only at h)|(replace h:=qb3 h;rcases h with⟨_,h⟩|⟨_,h⟩))
 all_goals first|(cases h;done)|exact⟨_,h,fun k'=>by simp only[xbhs,idxK,cond_true,cond_false,if_true,if_false,zan, *]⟩
theorem xbsi{t:TypeId}{f:Nat}{x:V}{k:V->Option β}(h:qe9 P t f x k=some r): ∃v,k v=some r/\∀ {γ:Type} (k':V->Option γ),qe9 P t f x k'=k' v:=by
 unfold qe9 at h
 repeat' (first|(dsimp only at h)|(split at h)|(replace h:=qaa h;obtain⟨_,h⟩:=h)|(replace h:=qaw h;obtain⟨_,h⟩:=h)|(replace h:=qb8 h;obtain⟨_,h,_⟩:=h;try dsimp only at h)|(replace h:=qb3 h;rcases h with⟨_,h⟩|⟨_,h⟩))
 all_goals first|(cases h;done)|exact⟨_,h,fun k'=>by simp only[qe9,idxK,cond_true,cond_false,if_true,if_false,zan, *]⟩
theorem q4e{t:TypeId}{f:Nat}{x:V}{k:V->Option β}(h:q0x P t f x k=some r): ∃v,k v=some r/\∀ {γ:Type} (k':V->Option γ),q0x P t f x k'=k' v:=by
 unfold q0x at h
 repeat' (first|(dsimp only at h)|(split at h)|(replace h:=qaa h;obtain⟨_,h⟩:=h)|(replace h:=qaw h;obtain⟨_,h⟩:=h)|(replace h:=qb8 h;obtain⟨_,h,_⟩:=h;try dsimp only at h)|(replace h:=qb3 h;rcases h with⟨_,h⟩|⟨_,h⟩))
 all_goals first|(cases h;done)|exact⟨_,h,fun k'=>by simp only[q0x,idxK,cond_true,cond_false,if_true,if_false,zan, *]⟩
theorem xbsj{t:TypeId}{x i:V}{k:V->Option β}(h:qfa P t x i k=some r): ∃v,k v=some r/\∀ {γ:Type} (k':V->Option γ),qfa P t x i k'=k' v:=by
 unfold qfa at h
 repeat' (first|(dsimp only at h)|(split at h)|(replace h:=qaa h;obtain⟨_,h⟩:=h)|(replace h:=qaw h;obtain⟨_,h⟩:=h)|(replace h:=qb8 h;obtain⟨_,h,_⟩:=h;try dsimp only at h)|(replace h:=qb3 h;rcases h with⟨_,h⟩|⟨_,h⟩))
 all_goals first|(cases h;done)|exact⟨_,h,fun k'=>by simp only[qfa,idxK,cond_true,cond_false,if_true,if_false,zan, *]⟩
theorem q4f{t:TypeId}{x i:V}{k:V->Option β}(h:q04 P t x i k=some r): ∃v,k v=some r/\∀ {γ:Type} (k':V->Option γ),q04 P t x i k'=k' v:=by
 unfold q04 at h
 repeat' (first|(dsimp only at h)|(split at h)|(replace h:=qaa h;obtain⟨_,h⟩:=h)|(replace h:=qaw h;obtain⟨_,h⟩:=h)|(replace h:=qb8 h;obtain⟨_,h,_⟩:=h;try dsimp only at h)|(replace h:=qb3 h;rcases h with⟨_,h⟩|⟨_,h⟩))
 all_goals first|(cases h;done)|exact⟨_,h,fun k'=>by simp only[q04,idxK,cond_true,cond_false,if_true,if_false,zan, *]⟩
theorem xbjq{x:V}{i:Nat}{k:V->Option β}(h:qkt x i k=some r): ∃v,k v=some r/\∀ {γ:Type} (k':V->Option γ),qkt x i k'=k' v:=by
 unfold qkt at h
 repeat' (first|(dsimp only at h)|(split at h)|(replace h:=qaa h;obtain⟨_,h⟩:=h)|(replace h:=qaw h;obtain⟨_,h⟩:=h)|(replace h:=qb8 h;obtain⟨_,h,_⟩:=h;try dsimp only at h)|(replace h:=qb3 h;rcases h with⟨_,h⟩|⟨_,h⟩))
 all_goals first|(cases h;done)|exact⟨_,h,fun k'=>by simp only[qkt,idxK,cond_true,cond_false,if_true,if_false,zan, *]⟩
theorem qx5{t:TypeId}{ok:Bool}{x:V}{k:V->Option β}(h:qpw P t ok x k=some r): ∃v,k v=some r/\∀ {γ:Type} (k':V->Option γ),qpw P t ok x k'=k' v:=by
 unfold qpw at h
 repeat' (first|(dsimp only at h)|(split at h)|(replace h:=qaa h;obtain⟨_,h⟩:=h)|(replace h:=qaw h;obtain⟨_,h⟩:=h)|(replace h:=qb8 h;obtain⟨_,h,_⟩:=h;try dsimp only at h)|(replace h:=qb3 h;rcases h with⟨_,h⟩|⟨_,h⟩))
 all_goals first|(cases h;done)|exact⟨_,h,fun k'=>by simp only[qpw,idxK,cond_true,cond_false,if_true,if_false,zan, *]⟩
theorem xbjr{t:Option TypeId}{l:List V}{k:V->Option β}(h:lenK P t l k=some r): ∃v,k v=some r/\∀ {γ:Type} (k':V->Option γ),lenK P t l k'=k' v:=by
 unfold lenK at h
 repeat' (first|(dsimp only at h)|(split at h)|(replace h:=qaa h;obtain⟨_,h⟩:=h)|(replace h:=qaw h;obtain⟨_,h⟩:=h)|(replace h:=qb8 h;obtain⟨_,h,_⟩:=h;try dsimp only at h)|(replace h:=qb3 h;rcases h with⟨_,h⟩|⟨_,h⟩))
 all_goals first|(cases h;done)|exact⟨_,h,fun k'=>by simp only[lenK,idxK,cond_true,cond_false,if_true,if_false,zan, *]⟩
theorem xbjp{t:Option TypeId}{l:List V}{k:V->Option β}(h:capK P t l k=some r): ∃v,k v=some r/\∀ {γ:Type} (k':V->Option γ),capK P t l k'=k' v:=by
 unfold capK at h;split at h
 ·exact⟨_,h,fun k'=>by simp only[capK, *]⟩
 ·cases h
theorem xbjt{l:List V}{k:V->Option β}(h:minK l k=some r): ∃v,k v=some r/\∀ {γ:Type} (k':V->Option γ),minK l k'=k' v:=by
 unfold minK at h
 repeat' (first|(dsimp only at h)|(split at h)|(replace h:=qaa h;obtain⟨_,h⟩:=h)|(replace h:=qaw h;obtain⟨_,h⟩:=h)|(replace h:=qb8 h;obtain⟨_,h,_⟩:=h;try dsimp only at h)|(replace h:=qb3 h;rcases h with⟨_,h⟩|⟨_,h⟩))
 all_goals first|(cases h;done)|exact⟨_,h,fun k'=>by simp only[minK,idxK,cond_true,cond_false,if_true,if_false,zan, *]⟩
theorem xbjs{l:List V}{k:V->Option β}(h:maxK l k=some r): ∃v,k v=some r/\∀ {γ:Type} (k':V->Option γ),maxK l k'=k' v:=by
 unfold maxK at h
 repeat' (first|(dsimp only at h)|(split at h)|(replace h:=qaa h;obtain⟨_,h⟩:=h)|(replace h:=qaw h;obtain⟨_,h⟩:=h)|(replace h:=qb8 h;obtain⟨_,h,_⟩:=h;try dsimp only at h)|(replace h:=qb3 h;rcases h with⟨_,h⟩|⟨_,h⟩))
 all_goals first|(cases h;done)|exact⟨_,h,fun k'=>by simp only[maxK,idxK,cond_true,cond_false,if_true,if_false,zan, *]⟩
theorem xbbp{s:ByteArray}{lo hi:Option Int}{k:V->Option β}(h:qp6 s lo hi k=some r): ∃v,k v=some r/\∀ {γ:Type} (k':V->Option γ),qp6 s lo hi k'=k' v:=by
 unfold qp6 at h
 repeat' (first|(dsimp only at h)|(split at h)|(replace h:=qaa h;obtain⟨_,h⟩:=h)|(replace h:=qaw h;obtain⟨_,h⟩:=h)|(replace h:=qb8 h;obtain⟨_,h,_⟩:=h;try dsimp only at h)|(replace h:=qb3 h;rcases h with⟨_,h⟩|⟨_,h⟩))
 all_goals first|(cases h;done)|exact⟨_,h,fun k'=>by simp only[qp6,idxK,cond_true,cond_false,if_true,if_false,zan, *]⟩
theorem qmd{t:TypeId}{v:V}{k:Rw->Option β}(h:qok P t v k=some r): ∃rw,k rw=some r/\∀ {γ:Type} (k':Rw->Option γ),qok P t v k'=k' rw:=by
 unfold qok at h
 repeat' (first|(dsimp only at h)|(split at h)|(replace h:=qaa h;obtain⟨_,h⟩:=h)|(replace h:=qaw h;obtain⟨_,h⟩:=h)|(replace h:=qb8 h;obtain⟨_,h,_⟩:=h;try dsimp only at h)|(replace h:=qb3 h;rcases h with⟨_,h⟩|⟨_,h⟩))
 all_goals first|(cases h;done)|exact⟨_,h,fun k'=>by simp only[qok,idxK,cond_true,cond_false,if_true,if_false,zan, *]⟩
theorem q4h{H:Heap}{t:TypeId}{x:V}{k:V->Option β}(h:qox P H t x k=some r): ∃v,k v=some r/\∀ {γ:Type} (k':V->Option γ),qox P H t x k'=k' v:=by
 unfold qox at h
 repeat' (first|(dsimp only at h)|(split at h)|(replace h:=qaa h;obtain⟨_,h⟩:=h)|(replace h:=qaw h;obtain⟨_,h⟩:=h)|(replace h:=qb8 h;obtain⟨_,h,_⟩:=h;try dsimp only at h)|(replace h:=qb3 h;rcases h with⟨_,h⟩|⟨_,h⟩))
 all_goals first|(cases h;done)|exact⟨_,h,fun k'=>by simp only[qox,idxK,cond_true,cond_false,if_true,if_false,zan, *]⟩
theorem q4d{t:TypeId}{ps:List (Nat×V)}{k:V->Option β}(h:q0q P t ps k=some r): ∃v,k v=some r/\∀ {γ:Type} (k':V->Option γ),q0q P t ps k'=k' v:=by
 unfold q0q at h
 repeat' (first|(dsimp only at h)|(split at h)|(replace h:=qaa h;obtain⟨_,h⟩:=h)|(replace h:=qaw h;obtain⟨_,h⟩:=h)|(replace h:=qb8 h;obtain⟨_,h,_⟩:=h;try dsimp only at h)|(replace h:=qb3 h;rcases h with⟨_,h⟩|⟨_,h⟩))
 all_goals first|(cases h;done)|exact⟨_,h,fun k'=>by simp only[q0q,idxK,cond_true,cond_false,if_true,if_false,zan, *]⟩
theorem qv3{H:Heap}{t:TypeId}{n pos:Nat}{ps:List (Nat×V)}{k:V->Upd->Option β}(h:qb7 P H t n pos ps k=some r): ∃v u,k v u=some r/\∀ {γ:Type} (k':V->Upd->Option γ),qb7 P H t n pos ps k'=k' v u:=by
 unfold qb7 at h
 repeat' (first|(dsimp only at h)|(split at h)|(replace h:=qaa h;obtain⟨_,h⟩:=h)|(replace h:=qaw h;obtain⟨_,h⟩:=h)|(replace h:=qb8 h;obtain⟨_,h,_⟩:=h;try dsimp only at h)|(replace h:=qb3 h;rcases h with⟨_,h⟩|⟨_,h⟩))
 all_goals first|(cases h;done)|exact⟨_,_,h,fun k'=>by simp only[qb7,idxK,cond_true,cond_false,if_true,if_false,zan, *]⟩
theorem qx6{t:TypeId}{pos:Nat}{n c:V}{k:V->Upd->Option β}(h:qej P t pos n c k=some r): ∃v u,k v u=some r/\∀ {γ:Type} (k':V->Upd->Option γ),qej P t pos n c k'=k' v u:=by
 unfold qej at h
 repeat' (first|(dsimp only at h)|(split at h)|(replace h:=qaa h;obtain⟨_,h⟩:=h)|(replace h:=qaw h;obtain⟨_,h⟩:=h)|(replace h:=qb8 h;obtain⟨_,h,_⟩:=h;try dsimp only at h)|(replace h:=qb3 h;rcases h with⟨_,h⟩|⟨_,h⟩))
 all_goals first|(cases h;done)|exact⟨_,_,h,fun k'=>by simp only[qej,idxK,cond_true,cond_false,if_true,if_false,zan, *]⟩
theorem qx4{H:Heap}{t:TypeId}{pos:Nat}{x y:V}{k:V->Upd->Option β}(h:qer P H t pos x y k=some r): ∃v u,k v u=some r/\∀ {γ:Type} (k':V->Upd->Option γ),qer P H t pos x y k'=k' v u:=by
 unfold qer at h
 repeat' (first|(dsimp only at h)|(split at h)|(replace h:=qaa h;obtain⟨_,h⟩:=h)|(replace h:=qaw h;obtain⟨_,h⟩:=h)|(replace h:=qb8 h;obtain⟨_,h,_⟩:=h;try dsimp only at h)|(replace h:=qb3 h;rcases h with⟨_,h⟩|⟨_,h⟩))
 all_goals first|(cases h;done)|exact⟨_,_,h,fun k'=>by simp only[qer,idxK,cond_true,cond_false,if_true,if_false,zan, *]⟩
theorem xbsl{t:TypeId}{c:CV}{e o:Nat}{k:V->Option β}(h:qsa.one P t k c e o=some r): ∃v,k v=some r/\∀ {γ:Type} (k':V->Option γ),qsa.one P t k' c e o=k' v:=by
 unfold qsa.one at h
 repeat' (first|(dsimp only at h)|(split at h)|(replace h:=qaa h;obtain⟨_,h⟩:=h)|(replace h:=qaw h;obtain⟨_,h⟩:=h)|(replace h:=qb8 h;obtain⟨_,h,_⟩:=h;try dsimp only at h)|(replace h:=qb3 h;rcases h with⟨_,h⟩|⟨_,h⟩))
 all_goals first|(cases h;done)|exact⟨_,h,fun k'=>by simp only[qsa.one,idxK,cond_true,cond_false,if_true,if_false,zan, *]⟩
theorem xbsk{α:Type}{lo hi:Option Int}{xs:List α}{k:List α->Option β}(h:cutK.lst lo hi xs k=some r): ∃l,k l=some r/\∀ {γ:Type} (k':List α->Option γ),cutK.lst lo hi xs k'=k' l:=by
 unfold cutK.lst at h
 repeat' (first|(dsimp only at h)|(split at h)|(replace h:=qaa h;obtain⟨_,h⟩:=h)|(replace h:=qaw h;obtain⟨_,h⟩:=h)|(replace h:=qb8 h;obtain⟨_,h,_⟩:=h;try dsimp only at h)|(replace h:=qb3 h;rcases h with⟨_,h⟩|⟨_,h⟩))
 all_goals first|(cases h;done)|exact⟨_,h,fun k'=>by simp only[cutK.lst,idxK,cond_true,cond_false,if_true,if_false,zan, *]⟩
theorem xbsm{H:Heap}{e:Nat}{t:TypeId}{v:V}{k:CV->Upd->Option β}(h:qc1 P H e t v k=some r): ∃c u,k c u=some r/\∀ {γ:Type} (k':CV->Upd->Option γ),qc1 P H e t v k'=k' c u:=by
 unfold qc1 at h
 repeat' (first|(dsimp only at h)|(split at h)|(replace h:=qaa h;obtain⟨_,h⟩:=h)|(replace h:=qaw h;obtain⟨_,h⟩:=h)|(replace h:=qb8 h;obtain⟨_,h,_⟩:=h;try dsimp only at h)|(replace h:=qb3 h;rcases h with⟨_,h⟩|⟨_,h⟩))
 all_goals first|(cases h;done)|exact⟨_,_,h,fun k'=>by simp only[qc1,idxK,cond_true,cond_false,if_true,if_false,zan, *]⟩
theorem xbbq{H:Heap}{t:TypeId}{x:V}{k:V->Option β}(h:qsa P H t x k=some r): ∃v,k v=some r/\∀ {γ:Type} (k':V->Option γ),qsa P H t x k'=k' v:=by
 unfold qsa at h
 repeat' (first|(dsimp only at h)|(split at h)|(replace h:=xbsl h;obtain⟨v,h,hp⟩:=h;exact⟨v,h,fun k'=>by simp only[qsa,cond_true,cond_false, *]⟩)|(replace h:=qaa h;obtain⟨_,h⟩:=h)|(replace h:=qaw h;obtain⟨_,h⟩:=h)|(replace h:=qb8 h;obtain⟨_,h,_⟩:=h;try dsimp only at h)|(replace h:=qb3 h;rcases h with⟨_,h⟩|⟨_,h⟩))
 all_goals first|(cases h;done)|exact⟨_,h,fun k'=>by simp only[qsa,idxK,cond_true,cond_false,if_true,if_false,zan, *]⟩
theorem xbsh{x:V}{lo hi:Option Int}{k:V->Option β}(h:cutK x lo hi k=some r): ∃v,k v=some r/\∀ {γ:Type} (k':V->Option γ),cutK x lo hi k'=k' v:=by
 unfold cutK at h
 repeat' (first|(obtain⟨v,h,hp⟩:=xbsk h;exact⟨_,h,fun k'=>by simp only[cutK,cond_true,cond_false, *]⟩)|(dsimp only at h)|(split at h)|(replace h:=qaa h;obtain⟨_,h⟩:=h)|(replace h:=qaw h;obtain⟨_,h⟩:=h)|(replace h:=qb8 h;obtain⟨_,h,_⟩:=h;try dsimp only at h)|(replace h:=qb3 h;rcases h with⟨_,h⟩|⟨_,h⟩))
 all_goals first|(cases h;done)|exact⟨_,h,fun k'=>by simp only[cutK,idxK,cond_true,cond_false,if_true,if_false,zan, *]⟩
theorem qx7{t:TypeId}{x:V}{h' m:Int}{k:V->Option β}(h:slice3K P t x h' m k=some r): ∃v,k v=some r/\∀ {γ:Type} (k':V->Option γ),slice3K P t x h' m k'=k' v:=by
 unfold slice3K at h;split at h
 ·rename_i e ki xs hk;replace h:=qaa h;obtain⟨h1,h⟩:=h;replace h:=qaa h;obtain⟨h2,h⟩:=h;exact⟨_,h,fun k'=>by unfold slice3K;simp only[hk,h1,h2,cond_true]⟩
 ·cases h
theorem q4g{t:TypeId}{x:V}{lo hi:Option Int}{k:V->Option β}(h:qwm P t x lo hi k=some r): ∃v,k v=some r/\∀ {γ:Type} (k':V->Option γ),qwm P t x lo hi k'=k' v:=by
 unfold qwm at h
 repeat' (first|(obtain⟨v,h,hp⟩:=xbsh h;exact⟨_,h,fun k'=>by simp only[qwm,cond_true,cond_false, *]⟩)|(obtain⟨v,h,hp⟩:=xbbp h;exact⟨_,h,fun k'=>by simp only[qwm,cond_true,cond_false, *]⟩)|(dsimp only at h)|(split at h)|(replace h:=qaa h;obtain⟨_,h⟩:=h)|(replace h:=qaw h;obtain⟨_,h⟩:=h)|(replace h:=qb8 h;obtain⟨_,h,_⟩:=h;try dsimp only at h)|(replace h:=qb3 h;rcases h with⟨_,h⟩|⟨_,h⟩))
 all_goals first|(cases h;done)|exact⟨_,h,fun k'=>by simp only[qwm,idxK,cond_true,cond_false,if_true,if_false,zan, *]⟩
theorem xbgf{H:Heap}{t:TypeId}{x v:V}{k:Upd->Option β}(h:qmo P H t x v k=some r): ∃u,k u=some r/\∀ {γ:Type} (k':Upd->Option γ),qmo P H t x v k'=k' u:=by
 unfold qmo at h
 repeat' (first|(obtain⟨c,u,h,hp⟩:=xbsm h;exact⟨_,h,fun k'=>by simp only[qmo,cond_true,cond_false, *]⟩)|(dsimp only at h)|(split at h)|(replace h:=qaa h;obtain⟨_,h⟩:=h)|(replace h:=qaw h;obtain⟨_,h⟩:=h)|(replace h:=qb8 h;obtain⟨_,h,_⟩:=h;try dsimp only at h)|(replace h:=qb3 h;rcases h with⟨_,h⟩|⟨_,h⟩))
 all_goals first|(cases h;done)|exact⟨_,h,fun k'=>by simp only[qmo,idxK,cond_true,cond_false,if_true,if_false,zan, *]⟩
end
section
variable {P:Program} {E:Env} {β:Type} {r:β}
theorem xbm3{H:Heap}{g:FuncId}{mk:Bool}{pos:Nat}{args:List V}{kv:V->Upd->Option β}{kp:CV->Upd->Option β}(h:q24 P E H g mk pos args kv kp=some r):
  (∃v u,kv v u=some r/\∀ {γ:Type} (k':V->Upd->Option γ) (kp':CV->Upd->Option γ),q24 P E H g mk pos args k' kp'=k' v u)\/
   ∃c u,kp c u=some r/\∀ {γ:Type} (k':V->Upd->Option γ) (kp':CV->Upd->Option γ),q24 P E H g mk pos args k' kp'=kp' c u:=by
 unfold q24 at h;split at h
 ·cases h
 ·rename_i fn hfn;replace h:=qaw h;obtain⟨h1,h⟩:=h;split at h
  ·rename_i as obs h63 has hobs;replace h:=qaa h;obtain⟨hpr,h⟩:=h;obtain⟨out,horc,h,hk⟩:=qjb h
   cases out with
   | ret vs objs=>
    replace h:=qaa h;obtain⟨h2,h⟩:=h;exact .inl ⟨_,_,h,fun k' kp'=>by simp only[q24,hfn,h1,h63,has,hobs,hpr,hk,h2,cond_true,cond_false]⟩
   | pan c objs=>
    replace h:=qaa h;obtain⟨h2,h⟩:=h;exact .inr ⟨_,_,h,fun k' kp'=>by simp only[q24,hfn,h1,h63,has,hobs,hpr,hk,h2,cond_true,cond_false]⟩
   | yld x f t=>cases h
  ·cases h
theorem xbxp{s:List (Nat×V)}{H:Heap}{o:Oper}{k:V->Upd->Option β}{kp:CV->Upd->Option β}(h:opK P E s H o k kp=some r):
  (∃v u,k v u=some r/\∀ {γ:Type} (k':V->Upd->Option γ) (kp':CV->Upd->Option γ),opK P E s H o k' kp'=k' v u)\/
   ∃c u,kp c u=some r/\∀ {γ:Type} (k':V->Upd->Option γ) (kp':CV->Upd->Option γ),opK P E s H o k' kp'=kp' c u:=by
 cases hop:o.op with
 | move x=>
  simp only[opK,hop] at h ⊢;exact .inl ⟨_,_,h,fun k' kp'=>rfl⟩
 | assign x=>
  simp only[opK,hop] at h ⊢;split at h
  ·rename_i c hc;split at h
   ·rename_i e hke;split at h
    ·rename_i r0 hr0;exact .inl ⟨_,_,h,fun k' kp'=>by simp only[hc,hke,hr0]⟩
    ·cases h
   ·cases h
  ·rename_i hn;exact .inl ⟨_,_,h,fun k' kp'=>by simp only[hn]⟩
 | pick c x y=>
  simp only[opK,hop] at h ⊢;split at h
  ·rename_i t hc
   cases t with
   | true=>exact .inl ⟨_,_,h,fun k' kp'=>by simp only[hc,cond_true]⟩
   | false=>exact .inl ⟨_,_,h,fun k' kp'=>by simp only[hc,cond_false]⟩
  ·cases h
 | alloc t=>
  simp only[opK,hop] at h ⊢;split at h
  ·rename_i z hz;obtain⟨v,h,hp⟩:=qmd h;exact .inl ⟨_,_,h,fun k' kp'=>by first|exact hp _|(simp only[hz];exact hp _)⟩
  ·cases h
 | box t x=>
  simp only[opK,hop] at h ⊢;obtain⟨v,h,hp⟩:=qmd h;exact .inl ⟨_,_,h,fun k' kp'=>hp _⟩
 | load t x=>
  simp only[opK,hop] at h ⊢;obtain⟨v,h,hp⟩:=xbbq h;exact .inl ⟨_,_,h,fun k' kp'=>hp _⟩
 | store t x y=>
  simp only[opK,hop] at h ⊢;obtain⟨u,h,hp⟩:=xbgf h;exact .inl ⟨_,_,h,fun k' kp'=>hp _⟩
 | nilCheck x=>
  simp only[opK,hop] at h ⊢;obtain⟨v,h,hp⟩:=xbju h;exact .inl ⟨_,_,h,fun k' kp'=>hp _⟩
 | binOp op t x y yt=>
  simp only[opK,hop] at h ⊢;obtain⟨v,h,hp⟩:=xbjo h;exact .inl ⟨_,_,h,fun k' kp'=>hp _⟩
 | unOp op t x=>
  simp only[opK,hop] at h ⊢;obtain⟨v,h,hp⟩:=xbsn h;exact .inl ⟨_,_,h,fun k' kp'=>hp _⟩
 | convert src dst x=>
  simp only[opK,hop] at h ⊢;split at h
  ·rename_i e b hd hx;replace h:=qaa h;obtain⟨h1,h⟩:=h;split at h
   ·rename_i he;replace h:=qaa h;obtain⟨h2,h⟩:=h;exact .inl ⟨_,_,h,fun k' kp'=>by simp only[hd,hx,h1,h2,he,cond_true]⟩
   ·cases h
  ·rename_i b hd hx;obtain⟨v,h,hp⟩:=qv4 h;exact .inl ⟨_,_,h,fun k' kp'=>by first|exact hp _|(simp only[hd,hx];exact hp _)⟩
  ·rename_i hd hn;obtain⟨v,h,hp⟩:=q4h h;exact .inl ⟨_,_,h,fun k' kp'=>by first|exact hp _|(simp only[hd,hn];exact hp _)⟩
  ·rename_i hn1 hn2 hn3;obtain⟨v,h,hp⟩:=qv4 h;exact .inl ⟨_,_,h,fun k' kp'=>by first|exact hp _|(simp only[hn1,hn2,hn3];exact hp _)⟩
 | makeInterface t x=>
  simp only[opK,hop] at h ⊢;replace h:=qaa h;obtain⟨h1,h⟩:=h;split at h
  ·cases h
  ·cases h
  ·rename_i hn1 hn2;exact .inl ⟨_,_,h,fun k' kp'=>by simp only[h1,hn1,hn2,cond_true]⟩
 | makeFunc g x y=>
  simp only[opK,hop] at h ⊢;exact .inl ⟨_,_,h,fun k' kp'=>rfl⟩
 | makeSlice t n c=>
  simp only[opK,hop] at h ⊢;obtain⟨v,u,h,hp⟩:=qx6 h;exact .inl ⟨_,_,h,fun k' kp'=>hp _⟩
 | slice t x lo hi mx=>
  simp only[opK,hop] at h ⊢;split at h
  ·rename_i l hh hmx hl hhi;obtain⟨v,h,hp⟩:=q4g h;exact .inl ⟨_,_,h,fun k' kp'=>by first|exact hp _|(simp only[hmx,hl,hhi];exact hp _)⟩
  ·rename_i m hh hmx hl hhi;obtain⟨v,h,hp⟩:=qx7 h;exact .inl ⟨_,_,h,fun k' kp'=>by first|exact hp _|(simp only[hmx,hl,hhi];exact hp _)⟩
  ·cases h
 | fieldAddr t x f=>
  simp only[opK,hop] at h ⊢;obtain⟨v,h,hp⟩:=xbsi h;exact .inl ⟨_,_,h,fun k' kp'=>hp _⟩
 | field t x f=>
  simp only[opK,hop] at h ⊢;obtain⟨v,h,hp⟩:=q4e h;exact .inl ⟨_,_,h,fun k' kp'=>hp _⟩
 | indexAddr t x i=>
  simp only[opK,hop] at h ⊢;obtain⟨v,h,hp⟩:=xbsj h;exact .inl ⟨_,_,h,fun k' kp'=>hp _⟩
 | index t x i=>
  simp only[opK,hop] at h ⊢;obtain⟨v,h,hp⟩:=q4f h;exact .inl ⟨_,_,h,fun k' kp'=>hp _⟩
 | build t ps=>
  simp only[opK,hop] at h ⊢;obtain⟨v,h,hp⟩:=q4d h;exact .inl ⟨_,_,h,fun k' kp'=>hp _⟩
 | buildSlice t n ps=>
  simp only[opK,hop] at h ⊢;obtain⟨v,u,h,hp⟩:=qv3 h;exact .inl ⟨_,_,h,fun k' kp'=>hp _⟩
 | extract x i=>
  simp only[opK,hop] at h ⊢;obtain⟨v,h,hp⟩:=xbjq h;exact .inl ⟨_,_,h,fun k' kp'=>hp _⟩
 | typeAssert x xt asserted ok=>
  simp only[opK,hop] at h ⊢;obtain⟨v,h,hp⟩:=qx5 h;exact .inl ⟨_,_,h,fun k' kp'=>hp _⟩
 | panic x=>
  simp only[opK,hop] at h ⊢;split at h
  ·rename_i t c hc;exact .inr ⟨_,_,h,fun k' kp'=>by simp only[hc]⟩
  ·cases h
 | call c=>
  simp only[opK,hop] at h ⊢;split at h
  ·rename_i hcal;obtain⟨v,h,hp⟩:=xbjr h;exact .inl ⟨_,_,h,fun k' kp'=>by first|exact hp _|(simp only[hcal];exact hp _)⟩
  ·rename_i hcal;obtain⟨v,h,hp⟩:=xbjp h;exact .inl ⟨_,_,h,fun k' kp'=>by first|exact hp _|(simp only[hcal];exact hp _)⟩
  ·rename_i hcal;obtain⟨v,h,hp⟩:=xbjt h;exact .inl ⟨_,_,h,fun k' kp'=>by first|exact hp _|(simp only[hcal];exact hp _)⟩
  ·rename_i hcal;obtain⟨v,h,hp⟩:=xbjs h;exact .inl ⟨_,_,h,fun k' kp'=>by first|exact hp _|(simp only[hcal];exact hp _)⟩
  ·rename_i hcal;split at h
   ·rename_i t t2 x y hat hae;split at h
    ·rename_i b hk2;obtain⟨v,u,h,hp⟩:=qx4 h;exact .inl ⟨_,_,h,fun k' kp'=>by first|exact hp _|(simp only[hcal,hat,hae,hk2];exact hp _)⟩
    ·rename_i e' hk2;replace h:=qaw h;obtain⟨h1,h⟩:=h;obtain⟨v,u,h,hp⟩:=qx4 h;exact .inl ⟨_,_,h,fun k' kp'=>by first|exact hp _|(simp only[hcal,hat,hae,hk2,h1,cond_false];exact hp _)⟩
    ·cases h
   ·cases h
  ·rename_i f hcal;split at h
   ·rename_i g A B hfn;rcases xbm3 h with⟨v,u,h,hp⟩|⟨v,u,h,hp⟩
    ·exact .inl ⟨_,_,h,fun k' kp'=>by first|exact hp _ _|(simp only[hcal,hfn];exact hp _ _)⟩
    ·exact .inr ⟨_,_,h,fun k' kp'=>by first|exact hp _ _|(simp only[hcal,hfn];exact hp _ _)⟩
   ·cases h
  ·cases h
 | _=>simp[opK,hop] at h
end
def Agree(H H':Heap)(l:List Nat):Prop:= ∀p∈l,qaj H' p=qaj H p
theorem qg1{α β:Type}{f g:α->List β}: ∀ {l:List α},(∀x∈l,f x=g x)->l.flatMap f=l.flatMap g
 | [],_=>rfl
 | x::r,h=>by simp only[za5];rw[h x (by simp),qg1 (l:=r) fun y hy=>h y (by simp[hy])]
theorem qeb{H H':Heap}: ∀(n:Nat) (v:V),Agree H H' (reach H n v)->reach H' n v=reach H n v:=by
 intro n
 induction n with
 | zero=>intro v _;cases v<;>rfl
 | succ n ih=>
  intro v h;have lst: ∀l:List V,Agree H H' (l.flatMap (reach H n))->l.flatMap (reach H' n)=l.flatMap (reach H n):=fun l hl=>
   qg1 fun x hx=>ih x fun p hp=>hl p (zb7.2 ⟨x,hx,hp⟩)
  cases v with
  | ptr p i o=>
   simp only[reach] at h ⊢;rw[h p (by simp)]
   cases ho:qaj H p with
   | none=>rfl
   | some ob=>
    obtain⟨row,lock⟩:=ob;rw[ho] at h
    cases row with
    | var l=>
     show p::l.flatMap (reach H' n)=p::l.flatMap (reach H n);rw[lst l fun q hq=>h q (by simp[hq])]
    | _=>rfl
  | agg l=>simp only[reach] at h ⊢;exact lst l h
  | tup l=>simp only[reach] at h ⊢;exact lst l h
  | iface t v=>simp only[reach] at h ⊢;exact ih v h
  | fn f a b=>
   simp only[reach] at h ⊢;rw[lst a fun q hq=>h q (by simp only[zak];exact .inl hq),lst b fun q hq=>h q (by simp only[zak];exact .inr hq)]
  | _=>rfl
theorem qp3{f g:V->Option CV}: ∀ {l:List V},(∀x∈l,f x=g x)->qkc f l=qkc g l
 | [],_=>rfl
 | x::r,h=>by simp only[qkc];rw[h x (by simp),qp3 (l:=r) fun y hy=>h y (by simp[hy])]
theorem qp4{f g:TypeId->V->Option CV}: ∀ {l:List V} (ts:List TypeId),(∀x∈l, ∀t,f t x=g t x)->qor f ts l=qor g ts l
 | [],ts,_=>by cases ts<;>rfl
 | x::r,[],_=>rfl
 | x::r,t::ts,h=>by simp only[qor];rw[h x (by simp) t,qp4 (l:=r) ts fun y hy=>h y (by simp[hy])]
theorem qgx{P:Program}{H H':Heap}: ∀(n:Nat) (t:TypeId) (v:V),Agree H H' (reach H n v)->qbp P H' n t v=qbp P H n t v:=by
 intro n
 induction n with
 | zero=>intro t v _;cases v<;>simp[qbp]
 | succ n ih=>
  intro t v h;have lstL: ∀l:List V,Agree H H' (l.flatMap (reach H n))->qkc (qbp P H' n 0) l=qkc (qbp P H n 0) l:=fun l hl=>
   qp3 fun x hx=>ih 0 x fun p hp=>hl p (zb7.2 ⟨x,hx,hp⟩)
  cases v with
  | cl c=>simp[qbp]
  | nils=>simp[qbp]
  | agg l=>
   simp only[reach] at h;simp only[qbp];rw[qp4 _ fun x hx t=>ih t x fun p hp=>h p (zb7.2 ⟨x,hx,hp⟩)]
  | ref p o len tip e=>simp only[reach] at h;simp only[qbp];rw[h p (by simp)]
  | aptr p m e=>simp only[reach] at h;simp only[qbp];rw[h p (by simp)]
  | ptr p i o=>
   simp only[reach] at h;simp only[qbp];rw[h p (by simp)]
   cases ho:qaj H p with
   | none=>rfl
   | some ob=>
    obtain⟨row,lock⟩:=ob;rw[ho] at h
    cases row with
    | var l=>simp only;rw[lstL l fun q hq=>h q (by simp[hq])]
    | _=>rfl
  | iface t v=>simp only[reach] at h;simp only[qbp];rw[ih t v h]
  | fn f a b=>
   simp only[reach] at h;simp only[qbp];rw[lstL a fun q hq=>h q (by simp only[zak];exact .inl hq),lstL b fun q hq=>h q (by simp only[zak];exact .inr hq)]
  | undef=>simp[qbp]
  | tup l=>simp[qbp]
theorem qeh{H H':Heap}: ∀ {l:List Nat},Agree H H' l->lockAll H' l=lockAll H l
 | [],_=>rfl
 | p::r,h=>by simp only[lockAll];rw[h p (by simp),qeh (l:=r) fun q hq=>h q (by simp[hq])]
theorem qs8{H H':Heap}{n:Nat}{v:V}(h:Agree H H' (reach H (n+1) v)):xbnd H' v=xbnd H v:=by
 cases v with
 | ref p o len tip e=>simp only[reach] at h;simp only[xbnd];rw[h p (by simp)]
 | cl c=>cases c<;>rfl
 | _=>rfl
theorem q2b{H H':Heap}{n:Nat}{v:V}(h:Agree H H' (reach H (n+1) v)):q2a H' v=q2a H v:=by
 unfold q2a;split
 ·rfl
 ·exact qs8 h
section
variable {P:Program} {β:Type} {H H':Heap}
theorem q7o{n:Nat}{t:TypeId}{v:V}{k:V->Option β}(h:Agree H H' (reach H (n+1) v)):qox P H' t v k=qox P H t v k:=by have hr:=qs8 h;unfold qox;cases v<;>simp only[hr]
theorem xbay{t:TypeId}{x:V}{k:V->Option β}(h: ∀p,(∃i o,x=.ptr p i o)\/(∃n e,x=.aptr p n e)->qaj H' p=qaj H p):qsa P H' t x k=qsa P H t x k:=by
 cases x with
 | ptr p i o=>simp only[qsa];rw[h p (.inl ⟨i,o,rfl⟩)]
 | aptr p n e=>simp only[qsa];rw[h p (.inr ⟨n,e,rfl⟩)]
 | cl c=>
  cases c with
  | vp r i o=>cases r<;>rfl
  | _=>rfl
 | _=>rfl
theorem xbgl{e:Nat}{t:TypeId}{v:V}{k:CV->Upd->Option β}(h:Agree H H' (reach H 4 v)):qc1 P H' e t v k=qc1 P H e t v k:=by unfold qc1;rw[qgx 4 t v h,qeb 4 v h,qeh h]
theorem q7n{t:TypeId}{x v:V}{k:Upd->Option β}(h: ∀p,(∃i o,x=.ptr p i o)\/(∃n e,x=.aptr p n e)->qaj H' p=qaj H p)(h2:(∃p i o,x=.ptr p i o)->Agree H H' (reach H 4 v)):
  qmo P H' t x v k=qmo P H t x v k:=by
 cases x with
 | ptr p i o=>
  have h2:=h2 ⟨p,i,o,rfl⟩;simp only[qmo];rw[h p (.inl ⟨i,o,rfl⟩),qeb 4 v h2];simp only[xbgl h2]
 | aptr p n e=>simp only[qmo];rw[h p (.inr ⟨n,e,rfl⟩)]
 | _=>rfl
theorem qld{e:TypeId}: ∀ {ps:List (Nat×V)} {row:Rw} {u:Upd},Agree H H' (ps.flatMap fun p=>reach H 4 p.2)->qeo P H' e row ps u=qeo P H e row ps u
 | [],row,u,_=>rfl
 | (i,v)::r,row,u,h=>by have h1:Agree H H' (reach H 4 v):=fun p hp=>h p (by simp only[za5,zak];exact .inl hp);have h2:Agree H H' (r.flatMap fun p=>reach H 4 p.2):=fun p hp=>h p (by simp only[za5,zak];exact .inr hp);simp only[qeo];rw[qgx 4 e v h1,qeb 4 v h1,qeh h1];cases row<;>simp only[qld h2]
theorem qpz{t:TypeId}{n pos:Nat}{ps:List (Nat×V)}{k:V->Upd->Option β}(h:Agree H H' (ps.flatMap fun p=>reach H 4 p.2)):qb7 P H' t n pos ps k=qb7 P H t n pos ps k:=by unfold qb7;simp only[qld h]
theorem q0n{t:TypeId}{pos:Nat}{x y:V}{k:V->Upd->Option β}(hx:Agree H H' (reach H 4 x))(hy:Agree H H' (reach H 4 y)):qer P H' t pos x y k=qer P H t pos x y k:=by
 unfold qer;rw[q2b hy]
 cases x with
 | ref p o len tip e=>
  simp only[reach] at hx;have hp:=hx p (by simp);cases tip<;>simp only[hp]
 | _=>rfl
theorem qob{br:List Nat}: ∀ {l:List V} {i:Nat},Agree H H' (l.flatMap (reach H 6))->qby H' br i l=qby H br i l
 | [],i,_=>rfl
 | v::r,i,h=>by simp only[qby];rw[qeb 6 v fun p hp=>h p (by simp only[za5,zak];exact .inl hp),qob (l:=r) fun p hp=>h p (by simp only[za5,zak];exact .inr hp)]
theorem qkk{br:List Nat}: ∀ {l:List V} {i:Nat},Agree H H' (l.flatMap (reach H 6))->qbw H' br i l=qbw H br i l
 | [],i,_=>rfl
 | v::r,i,h=>by simp only[qbw];rw[qeb 6 v fun p hp=>h p (by simp only[za5,zak];exact .inl hp),qkk (l:=r) fun p hp=>h p (by simp only[za5,zak];exact .inr hp)]
theorem qsj{br:List Nat}: ∀ {l:List V} {i:Nat} {ts:List TypeId},Agree H H' (l.flatMap (reach H 6))->q7u P H' br i ts l=q7u P H br i ts l
 | [],i,ts,_=>rfl
 | v::r,i,ts,h=>by simp only[q7u];rw[qgx 6 _ v fun p hp=>h p (by simp only[za5,zak];exact .inl hp),qsj (l:=r) fun p hp=>h p (by simp only[za5,zak];exact .inr hp)]
theorem qog: ∀ {l:List Nat},Agree H H' l->qhr H' l=qhr H l
 | [],_=>rfl
 | p::r,h=>by simp only[qhr];rw[h p (by simp),qog (l:=r) fun q hq=>h q (by simp[hq])]
theorem qmw{br:List Nat}{q:Nat}: ∀ {l:List V} {i:Nat},q∈qby H br i l->q∈l.flatMap (reach H 6)
 | [],i,h=>by simp[qby] at h
 | v::r,i,h=>by
  simp only[qby,zak] at h;simp only[za5,zak];rcases h with h|h
  ·cases hb:br.any (Nat.beq i) with
   | true=>rw[hb] at h;exact .inl h
   | false=>rw[hb] at h;cases h
  ·exact .inr (qmw h)
theorem qid{br:List Nat}{q:Nat}: ∀ {l:List V} {i:Nat},q∈qbw H br i l->q∈l.flatMap (reach H 6)
 | [],i,h=>by simp[qbw] at h
 | v::r,i,h=>by
  simp only[qbw,zak] at h;simp only[za5,zak];rcases h with h|h
  ·cases hb:br.any (Nat.beq i) with
   | true=>rw[hb] at h;cases h
   | false=>rw[hb] at h;exact .inl h
  ·exact .inr (qid h)
theorem q9a{E:Env}{g:FuncId}{mk:Bool}{pos:Nat}{args:List V}{kv:V->Upd->Option β}{kp:CV->Upd->Option β}(h:Agree H H' (args.flatMap (reach H 6)))(h63:qaj H' 63=qaj H 63):
  q24 P E H' g mk pos args kv kp=q24 P E H g mk pos args kv kp:=by
 unfold q24
 cases P.funcs[g]? with
 | none=>rfl
 | some fn=>
  dsimp only;rw[qob h,qkk h,h63,qog (l:=dedup (qby H (E.byref g) 0 args)) fun q hq=>h q (qmw (qma.1 hq)),qeh (l:=qbw H (E.byref g) 0 args) fun q hq=>h q (qid hq),qsj h]
theorem qpf{E:Env}{s s':List (Nat×V)}{l:List Operand}(h: ∀x∈l,opd E s' x=opd E s x):l.map (opd E s')=l.map (opd E s):=zbx h
theorem q1l{E:Env}{s s':List (Nat×V)}{o:Oper}{k:V->Upd->Option β}{kp:CV->Upd->Option β}(ho: ∀x∈o.op.operands,opd E s' x=opd E s x)(h1:Agree H H' (touch E s H o).1)(h2:Agree H H' (touch E s H o).2):opK P E s' H' o k kp=opK P E s H o k kp:=by
 have m: ∀x,x∈o.op.operands->opd E s' x=opd E s x:=ho
 cases hop:o.op with
 | move x=>
  simp only[opK,hop];rw[m x (by simp[Op.operands,hop])]
 | assign x=>
  simp only[opK,hop];rw[m x (by simp[Op.operands,hop])]
 | pick c x y=>
  simp only[opK,hop];rw[m c (by simp[Op.operands,hop]),m x (by simp[Op.operands,hop]),m y (by simp[Op.operands,hop])]
 | alloc t=>simp only[opK,hop]
 | box t x=>
  simp only[opK,hop];rw[m x (by simp[Op.operands,hop])]
 | load t x=>
  simp only[opK,hop];rw[m x (by simp[Op.operands,hop])];refine xbay fun p hp=>h1 p ?_;rcases hp with⟨i,j,e⟩|⟨i,j,e⟩<;>simp[touch,hop,e]
 | store t x y=>
  simp only[opK,hop];rw[m x (by simp[Op.operands,hop]),m y (by simp[Op.operands,hop])];refine q7n (fun p hp=>h2 p ?_) fun⟨p,i,j,e⟩ q hq=>h2 q ?_
  ·rcases hp with⟨i,j,e⟩|⟨i,j,e⟩<;>simp[touch,hop,e]
  ·simp[touch,hop,e,hq]
 | nilCheck x=>
  simp only[opK,hop];rw[m x (by simp[Op.operands,hop])]
 | binOp op t x y yt=>
  simp only[opK,hop];rw[m x (by simp[Op.operands,hop]),m y (by simp[Op.operands,hop])]
 | unOp op t x=>
  simp only[opK,hop];rw[m x (by simp[Op.operands,hop])]
 | convert src dst x=>
  simp only[opK,hop];rw[m x (by simp[Op.operands,hop])];have ht: ∀k:V->Option β,qox P H' src (opd E s x) k=qox P H src (opd E s x) k:=fun k=>q7o (n:=3) (by simpa [touch,hop] using h1);revert ht;generalize opd E s x=v;intro ht
  cases kd P dst with
  | str=>
   cases v with
   | cl c=>cases c<;>first|rfl|exact ht _
   | _=>exact ht _
  | slice e=>
   cases v with
   | cl c=>cases c<;>rfl
   | _=>rfl
  | _=>rfl
 | makeInterface t x=>
  simp only[opK,hop];rw[m x (by simp[Op.operands,hop])]
 | makeFunc g x y=>
  simp only[opK,hop];rw[qpf (l:=x.toList) fun z hz=>m z (by simp[Op.operands,hop];exact .inl (by simpa using hz)),qpf (l:=y.toList) fun z hz=>m z (by simp[Op.operands,hop];exact .inr (by simpa using hz))]
 | makeSlice t n c=>
  simp only[opK,hop];rw[m n (by simp[Op.operands,hop]),m c (by simp[Op.operands,hop])]
 | slice t x lo hi mx=>
  simp only[opK,hop];have e1:lo.map (opd E s')=lo.map (opd E s):=by
   cases lo with
   | none=>rfl
   | some z=>simp only[zap];rw[m z (by simp[Op.operands,hop])]
  have e2:hi.map (opd E s')=hi.map (opd E s):=by
   cases hi with
   | none=>rfl
   | some z=>simp only[zap];rw[m z (by simp[Op.operands,hop])]
  have e3:mx.map (opd E s')=mx.map (opd E s):=by
   cases mx with
   | none=>rfl
   | some z=>simp only[zap];rw[m z (by simp[Op.operands,hop])]
  rw[m x (by simp[Op.operands,hop]),e1,e2,e3]
 | fieldAddr t x f=>
  simp only[opK,hop];rw[m x (by simp[Op.operands,hop])]
 | field t x f=>
  simp only[opK,hop];rw[m x (by simp[Op.operands,hop])]
 | indexAddr t x i=>
  simp only[opK,hop];rw[m x (by simp[Op.operands,hop]),m i (by simp[Op.operands,hop])]
 | index t x i=>
  simp only[opK,hop];rw[m x (by simp[Op.operands,hop]),m i (by simp[Op.operands,hop])]
 | build t ps=>
  simp only[opK,hop];have e:(ps.toList.map fun p=>(p.1,opd E s' p.2))=ps.toList.map fun p=>(p.1,opd E s p.2):=zbx fun p hp=>by rw[m p.2 (by simp[Op.operands,hop];exact⟨p.1,by simpa using hp⟩)]
  rw[e]
 | buildSlice t n ps=>
  simp only[opK,hop];have e:(ps.toList.map fun p=>(p.1,opd E s' p.2))=ps.toList.map fun p=>(p.1,opd E s p.2):=zbx fun p hp=>by rw[m p.2 (by simp[Op.operands,hop];exact⟨p.1,by simpa using hp⟩)]
  rw[e];refine qpz fun q hq=>h2 q ?_;simp only[touch,hop];rw[List.flatMap_map] at hq;exact hq
 | extract x i=>
  simp only[opK,hop];rw[m x (by simp[Op.operands,hop])]
 | typeAssert x xt asserted ok=>
  simp only[opK,hop];rw[m x (by simp[Op.operands,hop])]
 | panic x=>
  simp only[opK,hop];have hr:Agree H H' (reach H 4 (opd E s x)):=by simpa [touch,hop] using h2
  rw[m x (by simp[Op.operands,hop]),qgx 4 0 _ hr,qeb 4 _ hr,qeh hr]
 | call c=>
  simp only[opK,hop];have hargs:c.args.toList.map (opd E s')=c.args.toList.map (opd E s):=qpf fun z hz=>m z (by simp[Op.operands,hop,Call.operands];exact .inr (by simpa using hz));rw[hargs]
  cases hcal:c.callee with
  | builtin b=>
   cases b with
   | append=>
    simp only
    cases hat:c.argTypes.toList with
    | nil=>rfl
    | cons t r=>
     cases r with
     | nil=>rfl
     | cons t2 r2=>
      cases r2 with
      | cons=>rfl
      | nil=>
       cases hae:c.args.toList.map (opd E s) with
       | nil=>rfl
       | cons x r=>
        cases r with
        | nil=>rfl
        | cons y r2=>
         cases r2 with
         | cons=>rfl
         | nil=>
          have hx:Agree H H' (reach H 4 x):=by simpa [touch,hop,hcal,hae] using h2
          have hy:Agree H H' (reach H 4 y):=by simpa [touch,hop,hcal,hae] using h1
          have e:=q0n (P:=P) (t:=t) (pos:=qmr o) (k:=k) hx hy;dsimp only
          cases kd P t2 with
          | str=>
           cases y with
           | cl c=>cases c<;>first|rfl|exact e
           | _=>rfl
          | slice e'=>
           show cond (xbfk y) none (qer P H' t (qmr o) x y k)=cond (xbfk y) none (qer P H t (qmr o) x y k);rw[e]
          | _=>rfl
   | _=>rfl
  | value f=>
   simp only;rw[m f (by simp[Op.operands,hop,Call.operands,hcal])]
   cases hfn:fnOf (opd E s f) with
   | none=>rfl
   | some gab=>
    obtain⟨g,A,B⟩:=gab;simp only;refine q9a ?_ (h1 63 (by simp[touch,hop,hcal,hfn]));have:(touch E s H o).2=(A++c.args.toList.map (opd E s)++B).flatMap (reach H 6):=by simp only[touch,hop,hcal,hfn]
    rw[this] at h2;exact h2
  | invoke r n=>rfl
 | _=>simp only[opK,hop]
end
section
variable {P:Program} {E:Env} {H:Heap}
theorem qd8{H:Heap}: ∀ {l:List Nat} {x:Nat×Option Obj},x∈lockAll H l->x.1∈l
 | [],x,h=>by simp[lockAll] at h
 | p::r,x,h=>by
  simp only[lockAll] at h
  cases hp:qaj H p with
  | none=>rw[hp] at h;exact zaw _ (qd8 h)
  | some ob=>
   rw[hp] at h;rcases zas.1 h with rfl|h
   ·simp
   ·exact zaw _ (qd8 h)
theorem qh1{e:TypeId}: ∀ {ps:List (Nat×V)} {row row':Rw} {u u':Upd},qeo P H e row ps u=some (row',u')->∀x∈u',x∈u\/x.1∈ps.flatMap fun p=>reach H 4 p.2
 | [],row,row',u,u',h,x,hx=>by simp only[qeo,zaa,zbb] at h;rw[h.2];exact .inl hx
 | (i,v)::r,row,row',u,u',h,x,hx=>by
  simp only[qeo] at h;simp only[za5,zak];split at h
  ·split at h
   ·replace h:=qaa h;rcases qh1 h.2 x hx with h'| h'
    ·exact .inl h'
    ·exact .inr (.inr h')
   ·cases h
  ·split at h
   ·replace h:=qaa h;rcases qh1 h.2 x hx with h'| h'
    ·rcases zak.1 h' with h'| h'
     ·exact .inl h'
     ·exact .inr (.inl (qd8 h'))
    ·exact .inr (.inr h')
   ·cases h
  ·cases h
theorem qs2{names:List Nat}{pos:Nat}{f:Nat->Nat}: ∀ {objs:List (Option Obj)} {i:Nat} {x:Nat×Option Obj},x∈qfx names pos f i objs->∃j,i<=j/\j<i+objs.length/\x.1=qd5 names pos j
 | [],i,x,h=>by simp[qfx] at h
 | ob::r,i,x,h=>by
  simp only[qfx,zas] at h;rcases h with rfl|h
  ·exact⟨i,by omega,by simp,rfl⟩
  ·obtain⟨j,h1,h2,h3⟩:=qs2 h;exact⟨j,by omega,by simp;omega,h3⟩
theorem xbb8{e:Nat}{t:TypeId}{v:V}{f:CV->Upd->Upd}{u:Upd}(h:qc1 P H e t v (fun c w=>some (f c w))=some u): ∃c w,u=f c w/\∀x∈w,x.1∈reach H 4 v:=by
 unfold qc1 at h;split at h
 ·replace h:=qaa h;obtain⟨_,h⟩:=h;simp only[zaa] at h;exact⟨_,_,h.symm,fun x hx=>qd8 hx⟩
 ·cases h
theorem xbdg{t:TypeId}{x v:V}{u:Upd}(h:qmo P H t x v some=some u): ∀y∈u,(∃i o,x=.ptr y.1 i o)\/(∃n e,x=.aptr y.1 n e)\/((∃p i o,x=.ptr p i o)/\y.1∈reach H 4 v):=by
 unfold qmo at h;replace h:=qaa h;obtain⟨_,h⟩:=h;split at h
 ·rename_i p n e;have one: ∀(u:Upd) ob,some [(p,ob)]=some u->∀y∈u,(∃i o,V.aptr p n e=.ptr y.1 i o)\/(∃n' e',V.aptr p n e=.aptr y.1 n' e')\/((∃q i o,V.aptr p n e=.ptr q i o)/\y.1∈reach H 4 v):=fun u ob hu y hy=>by simp only[zaa] at hu;subst hu;simp at hy;subst hy;exact .inr (.inl ⟨n,e,rfl⟩)
  split at h
  ·replace h:=qaa h;exact one _ _ h.2
  ·replace h:=qaa h;exact one _ _ h.2
  ·cases h
 ·rename_i p i o;have one: ∀(u:Upd) ob,some [(p,ob)]=some u->∀y∈u,(∃i' o',V.ptr p i o=.ptr y.1 i' o')\/(∃n' e',V.ptr p i o=.aptr y.1 n' e')\/((∃q i' o',V.ptr p i o=.ptr q i' o')/\y.1∈reach H 4 v):=fun u ob hu y hy=>by simp only[zaa] at hu;subst hu;simp at hy;subst hy;exact .inl ⟨i,o,rfl⟩
  have two: ∀(w:Upd) ob,(∀x∈w,x.1∈reach H 4 v)->∀y∈w++[(p,ob)],(∃i' o',V.ptr p i o=.ptr y.1 i' o')\/(∃n' e',V.ptr p i o=.aptr y.1 n' e')\/((∃q i' o',V.ptr p i o=.ptr q i' o')/\y.1∈reach H 4 v):=fun w ob hw y hy=>by
   rcases zak.1 hy with hy|hy
   ·exact .inr (.inr ⟨⟨p,i,o,rfl⟩,hw y hy⟩)
   ·simp at hy;subst hy;exact .inl ⟨i,o,rfl⟩
  split at h
  ·split at h
   ·split at h
    ·replace h:=qaa h;exact one _ _ h.2
    ·cases h
   ·split at h
    ·replace h:=qaa h;exact one _ _ h.2
    ·cases h
   ·replace h:=qaa h;obtain⟨c,w,rfl,hw⟩:=xbb8 h.2;exact two w _ hw
   ·replace h:=qaa h;obtain⟨c,w,rfl,hw⟩:=xbb8 h.2;exact two w _ hw
   ·replace h:=qaa h;exact one _ _ h.2
  ·cases h
 ·cases h
theorem xbez{g:FuncId}{mk:Bool}{pos:Nat}{args:List V}{u:Upd}(h:q24 P E H g mk pos args (fun _ u=>some u) (fun _ u=>some u)=some u):
  ∀x∈u,x.1∈args.flatMap (reach H 6)\/(mk=true/\∃i,i<4/\x.1=pos+1000000*i):=by
 have key: ∀(lk:Upd) (objs:List (Option Obj)) (f:Nat->Nat),(∀x∈lk,x.1∈args.flatMap (reach H 6))->(dedup (qby H (E.byref g) 0 args)).length<28->objs.length<=(dedup (qby H (E.byref g) 0 args)).length+cond mk 4 0->
   ∀x∈lk++qfx (dedup (qby H (E.byref g) 0 args)) pos f 0 objs,x.1∈args.flatMap (reach H 6)\/(mk=true/\∃i,i<4/\x.1=pos+1000000*i):=fun lk objs f hlk hsm hle x hx=>by
  rcases zak.1 hx with hx|hx
  ·exact .inl (hlk x hx)
  ·obtain⟨j,_,h2,h3⟩:=qs2 hx;rw[h3]
   cases hn:(dedup (qby H (E.byref g) 0 args))[j]? with
   | some p=>
    left;simp only[qd5,hn];exact qmw (qma.1 (zac hn))
   | none=>
    right;have hj:=List.getElem?_eq_none_iff.1 hn;have hmk:mk=true:=by
     cases mk with
     | true=>rfl
     | false=>simp at hle;omega
    subst hmk;have hle:objs.length<=(dedup (qby H (E.byref g) 0 args)).length+4:=hle;have hb:Nat.blt j 32=true:=by simp[zb9];omega
    exact⟨rfl,j - (dedup (qby H (E.byref g) 0 args)).length,by omega,by simp[qd5,hn,hb]⟩
 unfold q24 at h;split at h
 ·cases h
 ·replace h:=qaw h;obtain⟨hc,h⟩:=h;simp only[zcm] at hc;have hsm:(dedup (qby H (E.byref g) 0 args)).length<28:=by
   have: ¬(28<=(dedup (qby H (E.byref g) 0 args)).length):=fun h=>by have:=hc.2;rw[zcr h] at this;cases this
   omega
  have hlk: ∀(b:Bool), ∀x∈(cond b [] (lockAll H (qbw H (E.byref g) 0 args)):Upd),x.1∈args.flatMap (reach H 6):=fun b x hx=>by
   cases b with
   | true=>cases hx
   | false=>exact qid (qd8 hx)
  split at h
  ·replace h:=qaa h;obtain⟨hpr,h⟩:=h;obtain⟨out,_,h,_⟩:=qjb h
   cases out with
   | ret vs objs=>
    replace h:=qaa h;obtain⟨hl,h⟩:=h;simp only[zab] at hl;simp only[zaa] at h;subst h;exact key _ _ _ (hlk _) hsm (zb5 hl.2)
   | pan c objs=>
    replace h:=qaa h;obtain⟨hl,h⟩:=h;simp only[zaa] at h;subst h;exact key _ _ _ (hlk _) hsm (by rw[qag.1 hl];omega)
   | yld x f t=>cases h
  ·cases h
theorem xbsg{s:List (Nat×V)}{o:Oper}{u:Upd}(h:opK P E s H o (fun _ u=>some u) (fun _ u=>some u)=some u): ∀x∈u,x.1∈(touch E s H o).2\/x.1∈makes E o:=by
 have nil: ∀x∈([]:Upd),x.1∈(touch E s H o).2\/x.1∈makes E o:=fun x hx=>by cases hx
 have one: ∀ob,qmr o∈makes E o->∀x∈([(qmr o,ob)]:Upd),x.1∈(touch E s H o).2\/x.1∈makes E o:=fun ob hm x hx=>by simp at hx;subst hx;exact .inr hm
 cases hop:o.op with
 | move x=>
  simp only[opK,hop,zaa] at h;subst h;exact nil
 | assign x=>
  simp only[opK,hop] at h;split at h
  ·split at h
   ·split at h
    ·simp only[zaa] at h;subst h;exact one _ (by simp[makes,hop])
    ·cases h
   ·cases h
  ·simp only[zaa] at h;subst h;exact nil
 | pick c x y=>
  simp only[opK,hop] at h;split at h
  ·rename_i t hc;cases t<;>simp only[cond_true,cond_false,zaa] at h<;>subst h<;>exact nil
  ·cases h
 | alloc t=>
  simp only[opK,hop] at h;split at h
  ·obtain⟨_,h,_⟩:=qmd h;simp only[zaa] at h;subst h;exact one _ (by simp[makes,hop])
  ·cases h
 | box t x=>
  simp only[opK,hop] at h;obtain⟨_,h,_⟩:=qmd h;simp only[zaa] at h;subst h;exact one _ (by simp[makes,hop])
 | store t x y=>
  simp only[opK,hop] at h;have:=xbdg h;intro z hz;left;rcases this z hz with⟨i,j,e⟩|⟨i,j,e⟩|⟨⟨p,i,j,e⟩,hm⟩
  ·simp[touch,hop,e]
  ·simp[touch,hop,e]
  ·simp only[touch,hop,e];exact zaw _ hm
 | load t x=>
  simp only[opK,hop] at h;obtain⟨_,h,_⟩:=xbbq h;simp only[zaa] at h;subst h;exact nil
 | nilCheck x=>
  simp only[opK,hop] at h;obtain⟨_,h,_⟩:=xbju h;simp only[zaa] at h;subst h;exact nil
 | binOp op t x y yt=>
  simp only[opK,hop] at h;obtain⟨_,h,_⟩:=xbjo h;simp only[zaa] at h;subst h;exact nil
 | unOp op t x=>
  simp only[opK,hop] at h;obtain⟨_,h,_⟩:=xbsn h;simp only[zaa] at h;subst h;exact nil
 | convert src dst x=>
  simp only[opK,hop] at h;split at h
  ·replace h:=qaa h;obtain⟨_,h⟩:=h;split at h
   ·replace h:=qaa h;obtain⟨_,h⟩:=h;simp only[zaa] at h;subst h;exact one _ (by simp[makes,hop])
   ·cases h
  ·obtain⟨_,h,_⟩:=qv4 h;simp only[zaa] at h;subst h;exact nil
  ·obtain⟨_,h,_⟩:=q4h h;simp only[zaa] at h;subst h;exact nil
  ·obtain⟨_,h,_⟩:=qv4 h;simp only[zaa] at h;subst h;exact nil
 | makeInterface t x=>
  simp only[opK,hop] at h;replace h:=qaa h;obtain⟨_,h⟩:=h;split at h
  ·cases h
  ·cases h
  ·simp only[zaa] at h;subst h;exact nil
 | makeFunc g x y=>
  simp only[opK,hop,zaa] at h;subst h;exact nil
 | makeSlice t n c=>
  simp only[opK,hop] at h;unfold qej at h;split at h
  ·replace h:=qaa h;obtain⟨_,h⟩:=h;replace h:=qaa h;obtain⟨_,h⟩:=h;replace h:=qaa h;obtain⟨_,h⟩:=h;replace h:=qaa h;obtain⟨_,h⟩:=h;split at h
   ·simp only[zaa] at h;subst h;exact one _ (by simp[makes,hop])
   ·cases h
  ·cases h
 | slice t x lo hi mx=>
  simp only[opK,hop] at h;split at h
  ·obtain⟨_,h,_⟩:=q4g h;simp only[zaa] at h;subst h;exact nil
  ·obtain⟨_,h,_⟩:=qx7 h;simp only[zaa] at h;subst h;exact nil
  ·cases h
 | fieldAddr t x f=>
  simp only[opK,hop] at h;obtain⟨_,h,_⟩:=xbsi h;simp only[zaa] at h;subst h;exact nil
 | field t x f=>
  simp only[opK,hop] at h;obtain⟨_,h,_⟩:=q4e h;simp only[zaa] at h;subst h;exact nil
 | indexAddr t x i=>
  simp only[opK,hop] at h;obtain⟨_,h,_⟩:=xbsj h;simp only[zaa] at h;subst h;exact nil
 | index t x i=>
  simp only[opK,hop] at h;obtain⟨_,h,_⟩:=q4f h;simp only[zaa] at h;subst h;exact nil
 | build t ps=>
  simp only[opK,hop] at h;obtain⟨_,h,_⟩:=q4d h;simp only[zaa] at h;subst h;exact nil
 | extract x i=>
  simp only[opK,hop] at h;obtain⟨_,h,_⟩:=xbjq h;simp only[zaa] at h;subst h;exact nil
 | typeAssert x xt asserted ok=>
  simp only[opK,hop] at h;obtain⟨_,h,_⟩:=qx5 h;simp only[zaa] at h;subst h;exact nil
 | buildSlice t n ps=>
  simp only[opK,hop,xbiv] at h;unfold qb7 at h;split at h
  ·replace h:=qaa h;obtain⟨_,h⟩:=h;split at h
   ·split at h
    ·rename_i rw' u' hb;simp only[zaa] at h;subst h;intro x hx;rcases zak.1 hx with hx|hx
     ·rcases qh1 hb x hx with h'| h'
      ·cases h'
      ·left;simp only[touch,hop];rw[List.flatMap_map] at h';exact h'
     ·exact one _ (by simp[makes,hop]) x hx
    ·cases h
   ·cases h
  ·cases h
 | panic x=>
  simp only[opK,hop] at h;split at h
  ·simp only[zaa] at h;subst h;intro y hy;left;simp only[touch,hop];exact qd8 hy
  ·cases h
 | call c=>
  simp only[opK,hop] at h;split at h
  ·obtain⟨_,h,_⟩:=xbjr h;simp only[zaa] at h;subst h;exact nil
  ·obtain⟨_,h,_⟩:=xbjp h;simp only[zaa] at h;subst h;exact nil
  ·obtain⟨_,h,_⟩:=xbjt h;simp only[zaa] at h;subst h;exact nil
  ·obtain⟨_,h,_⟩:=xbjs h;simp only[zaa] at h;subst h;exact nil
  ·rename_i hcal;have happ: ∀(t:TypeId) (x y:V),qer P H t (qmr o) x y (fun _ u=>some u)=some u->c.args.toList.map (opd E s)=[x,y]->∀z∈u,z.1∈(touch E s H o).2\/z.1∈makes E o:=fun t x y h hae=>by
    have hpos:qmr o∈makes E o:=by simp[makes,hop,hcal]
    unfold qer at h;split at h
    ·split at h
     ·split at h
      ·split at h
       ·replace h:=qaa h;obtain⟨_,h⟩:=h;replace h:=qaa h;obtain⟨_,h⟩:=h;replace h:=qaa h;obtain⟨_,h⟩:=h;simp only[zaa] at h;subst h;exact one _ hpos
       ·cases h
      ·split at h
       ·split at h
        ·split at h
         ·replace h:=qaa h;obtain⟨_,h⟩:=h;replace h:=qaa h;obtain⟨_,h⟩:=h;replace h:=qaa h;obtain⟨_,h⟩:=h;simp only[zaa] at h;subst h;intro z hz;rcases zas.1 hz with rfl|hz
          ·left;simp[touch,hop,hcal,hae,reach]
          ·exact one _ hpos z hz
         ·cases h
        ·cases h
       ·cases h
      ·cases h
     ·cases h
    ·cases h
   split at h
   ·rename_i t t2 x y hat hae;split at h
    ·exact happ _ _ _ h hae
    ·replace h:=qaw h;exact happ _ _ _ h.2 hae
    ·cases h
   ·cases h
  ·rename_i f hcal;split at h
   ·rename_i g A B hfn;intro x hx;rcases xbez h x hx with h'| ⟨hm,i,hi,hxi⟩
    ·left;simp only[touch,hop,hcal,hfn];exact h'
    ·right
     cases f with
     | func g'=>
      have hm:E.keep g'=true:=hm;simp only[makes,hop,hcal,hm,cond_true];have:i=0\/i=1\/i=2\/i=3:=by omega
      rcases this with rfl|rfl|rfl|rfl<;>simp[hxi]
     | _=>cases hm
   ·cases h
  ·cases h
 | _=>simp[opK,hop] at h
end
structure Rec where
 d:Option Tmp
 v:V
 u:Upd
theorem qrw{p:Nat}: ∀ {u:Upd} {H:Heap},(∀x∈u,x.1≠p)->qaj (updH H u) p=qaj H p
 | [],H,_=>rfl
 | (q,none)::r,H,h=>by simp only[updH];rw[qrw (u:=r) fun x hx=>h x (zaw _ hx),qb4,if_neg fun e=>h (q,none) (by simp) e.symm]
 | (q,some ob)::r,H,h=>by simp only[updH];rw[qrw (u:=r) fun x hx=>h x (zaw _ hx),qau,if_neg fun e=>h (q,some ob) (by simp) e.symm]
theorem qgs{p:Nat}: ∀ {u:Upd} {H H':Heap},qaj H p=qaj H' p->qaj (updH H u) p=qaj (updH H' u) p
 | [],H,H',h=>h
 | (q,none)::r,H,H',h=>by simp only[updH];exact qgs (u:=r) (by rw[qb4,qb4,h])
 | (q,some ob)::r,H,H',h=>by simp only[updH];exact qgs (u:=r) (by rw[qau,qau,h])
theorem xbdz{p:Nat}: ∀ {u:Upd} {H H':Heap},(∃x∈u,x.1=p)->qaj (updH H u) p=qaj (updH H' u) p
 | [],H,H',⟨x,hx,_⟩=>by cases hx
 | (q,none)::r,H,H',h=>by
  simp only[updH];by_cases hq:q=p
  ·exact qgs (by rw[qb4,qb4,if_pos hq.symm,if_pos hq.symm])
  ·obtain⟨x,hx,e⟩:=h;rcases zas.1 hx with rfl|hx
   ·exact absurd e hq
   ·exact xbdz ⟨x,hx,e⟩
 | (q,some ob)::r,H,H',h=>by
  simp only[updH];by_cases hq:q=p
  ·exact qgs (by rw[qau,qau,if_pos hq.symm,if_pos hq.symm])
  ·obtain⟨x,hx,e⟩:=h;rcases zas.1 hx with rfl|hx
   ·exact absurd e hq
   ·exact xbdz ⟨x,hx,e⟩
def qcs(S:Nat->Bool):Nat->List Rec->List (Nat×V)×Heap->List (Nat×V)×Heap
 | _,[],st=>st
 | i,r::rs,st=>qcs S (i+1) rs (cond (S i) (setD st.1 r.d r.v,updH st.2 r.u) st)
theorem qjk{t:Nat}{S S':Nat->Bool}: ∀ {rs:List Rec} {i:Nat} {st st':List (Nat×V)×Heap},getV st.1 t=getV st'.1 t->(∀(j:Nat) (r:Rec),rs[j]? =some r->S (i+j)≠S' (i+j)->r.d≠some t)->
  getV (qcs S i rs st).1 t=getV (qcs S' i rs st').1 t
 | [],i,st,st',h,_=>h
 | r::rs,i,st,st',h,hn=>by
  simp only[qcs];refine qjk ?_ fun j x hj hs=>hn (j+1) x (by simpa using hj) (by rw[show i+(j+1)=i+1+j by omega];exact hs);have h0:=hn 0 r rfl;cases hS:S i<;>cases hS':S' i<;>simp only[cond_true,cond_false]
  ·exact h
  ·rw[qdx,if_neg (h0 (by simp[hS,hS']))];exact h
  ·rw[qdx,if_neg (h0 (by simp[hS,hS']))];exact h
  ·rw[qdx,qdx,h]
theorem qfk{p:Nat}{S S':Nat->Bool}: ∀ {rs:List Rec} {i:Nat} {st st':List (Nat×V)×Heap},qaj st.2 p=qaj st'.2 p->(∀(j:Nat) (r:Rec),rs[j]? =some r->S (i+j)≠S' (i+j)->∀x∈r.u,x.1≠p)->
  qaj (qcs S i rs st).2 p=qaj (qcs S' i rs st').2 p
 | [],i,st,st',h,_=>h
 | r::rs,i,st,st',h,hn=>by
  simp only[qcs];refine qfk ?_ fun j x hj hs=>hn (j+1) x (by simpa using hj) (by rw[show i+(j+1)=i+1+j by omega];exact hs);have h0:=hn 0 r rfl;cases hS:S i<;>cases hS':S' i<;>simp only[cond_true,cond_false]
  ·exact h
  ·rw[qrw (h0 (by simp[hS,hS']))];exact h
  ·rw[qrw (h0 (by simp[hS,hS']))];exact h
  ·exact qgs h
theorem qof{t:Nat}{S:Nat->Bool}: ∀ {rs:List Rec} {i m:Nat} {r:Rec} {st:List (Nat×V)×Heap},rs[m]? =some r->S (i+m)=false->r.d=some t->
  (∀(j:Nat) (x:Rec),rs[j]? =some x->j≠m->x.d≠some t)->getV (qcs (fun j=>S j|| Nat.beq j (i+m)) i rs st).1 t=r.v
 | [],i,m,r,st,h,_,_,_=>by simp at h
 | x::rs,i,0,r,st,h,hS,hd,hn=>by
  simp only[za4,zaa] at h;subst h;simp only[qcs];have hb:(S i|| Nat.beq i (i+0))=true:=by simp[zbk]
  rw[hb];simp only[cond_true];rw[qjk (S':=fun _=>false) (st':=(setD st.1 x.d x.v,updH st.2 x.u)) rfl fun j y hj _=>hn (j+1) y (by simpa using hj) (by omega)];have key: ∀(l:List Rec) (i:Nat) (st:List (Nat×V)×Heap),qcs (fun _=>false) i l st=st:=fun l=>by
   induction l with
   | nil=>intro i st;rfl
   | cons y l ih=>intro i st;simp only[qcs,cond_false];exact ih _ _
  rw[key,qdx,if_pos hd]
 | x::rs,i,m+1,r,st,h,hS,hd,hn=>by
  simp only[qcs];have:=qof (rs:=rs) (i:=i+1) (m:=m) (r:=r) (S:=S) (st:=cond (S i|| Nat.beq i (i+(m+1))) (setD st.1 x.d x.v,updH st.2 x.u) st) (by simpa using h) (by rw[show i+1+m=i+(m+1) by omega];exact hS) hd
   (fun j y hj hne=>hn (j+1) y (by simpa using hj) (by omega))
  rw[show i+1+m=i+(m+1) by omega] at this;exact this
theorem qoe{p:Nat}{S:Nat->Bool}: ∀ {rs:List Rec} {i m:Nat} {r:Rec} {st:List (Nat×V)×Heap} {H:Heap},rs[m]? =some r->(∃x∈r.u,x.1=p)->
  (∀(j:Nat) (y:Rec),rs[j]? =some y->m<j->S (i+j)=true->∀x∈y.u,x.1≠p)->qaj (qcs (fun j=>S j|| Nat.beq j (i+m)) i rs st).2 p=qaj (updH H r.u) p
 | [],i,m,r,st,H,h,_,_=>by simp at h
 | x::rs,i,0,r,st,H,h,hk,hn=>by
  simp only[za4,zaa] at h;subst h;simp only[qcs];have hb:(S i|| Nat.beq i (i+0))=true:=by simp[zbk]
  rw[hb];simp only[cond_true];rw[qfk (S':=fun _=>false) (st':=(setD st.1 x.d x.v,updH st.2 x.u)) rfl fun j y hj hs=>hn (j+1) y (by simpa using hj) (by omega) (by
   have hne:Nat.beq (i+1+j) (i+0)=false:=by rw[zau];intro e;have:=qag.1 e;omega
   simp only[hne,Bool.or_false,ne_eq,Bool.not_eq_false] at hs;rw[show i+(j+1)=i+1+j by omega];exact hs)]
  have key: ∀(l:List Rec) (i:Nat) (st:List (Nat×V)×Heap),qcs (fun _=>false) i l st=st:=fun l=>by
   induction l with
   | nil=>intro i st;rfl
   | cons y l ih=>intro i st;simp only[qcs,cond_false];exact ih _ _
  rw[key];exact xbdz hk
 | x::rs,i,m+1,r,st,H,h,hk,hn=>by
  simp only[qcs];have:=qoe (rs:=rs) (i:=i+1) (m:=m) (r:=r) (S:=S) (st:=cond (S i|| Nat.beq i (i+(m+1))) (setD st.1 x.d x.v,updH st.2 x.u) st) (H:=H) (by simpa using h) hk
   (fun j y hj hlt hs=>hn (j+1) y (by simpa using hj) (by omega) (by rw[show i+(j+1)=i+1+j by omega];exact hs))
  rw[show i+1+m=i+(m+1) by omega] at this;exact this
theorem Inv.same{E:Env}{w0:Base}{bl I0:Nat->Prop}{s s':List (Nat×V)}{H H':Heap}{a:Act}{w:World}{Im:Nat->Prop}{ρ:Nat->Loc}(h:Inv E w0 bl I0 s H a w Im ρ)(hs: ∀t,getV s' t=getV s t)(hH: ∀p,qaj H' p=qaj H p):Inv E w0 bl I0 s' H' a w Im ρ:=by
 have hS:shOf H'=shOf H:=by funext p;simp[shOf,hH]
 refine⟨⟨h.gam.im,h.gam.i0,fun p o hp=> ?_,fun p q o o' b x y x' y' hp hq=> ?_,fun p o b x y hp=> ?_,h.gam.imo⟩,h.fr,fun t=> ?_,h.nt,h.df,h.gl,fun j o hj hg=> ?_⟩
 ·rw[hS];exact h.gam.ob p o (by rw[<- hH];exact hp)
 ·exact h.gam.dj p q o o' b x y x' y' (by rw[<- hH];exact hp) (by rw[<- hH];exact hq)
 ·exact h.gam.lk p o b x y (by rw[<- hH];exact hp)
 ·rw[hS,hs];exact h.sl t
 ·exact h.st j o hj (by rw[<- hH];exact hg)
section
variable {P:Program} {E:Env} {β:Type}
theorem q7p{s s':List (Nat×V)}{H H':Heap}{o:Oper}(ho: ∀x∈o.op.operands,opd E s' x=opd E s x)(hH: ∀p,qaj H' p=qaj H p):touch E s' H' o=touch E s H o:=by
 have hr: ∀n,reach H' n=reach H n:=fun n=>funext fun v=>qeb n v fun p _=>hH p;have m: ∀x,x∈o.op.operands->opd E s' x=opd E s x:=ho
 cases hop:o.op with
 | load t x=>simp only[touch,hop];rw[m x (by simp[Op.operands,hop])]
 | store t x y=>simp only[touch,hop];rw[m x (by simp[Op.operands,hop]),m y (by simp[Op.operands,hop]),hr]
 | convert a b x=>simp only[touch,hop];rw[m x (by simp[Op.operands,hop]),hr]
 | buildSlice t n ps=>
  simp only[touch,hop];rw[hr];congr 1;exact qg1 fun p hp=>by rw[m p.2 (by simp[Op.operands,hop];exact⟨p.1,by simpa using hp⟩)]
 | panic x=>simp only[touch,hop];rw[m x (by simp[Op.operands,hop]),hr]
 | call c=>
  simp only[touch,hop];have hargs:c.args.toList.map (opd E s')=c.args.toList.map (opd E s):=qpf fun z hz=>m z (by simp[Op.operands,hop,Call.operands];exact .inr (by simpa using hz));rw[hargs,hr,hr]
  cases hcal:c.callee with
  | value f=>
   simp only;rw[m f (by simp[Op.operands,hop,Call.operands,hcal])]
  | builtin b=>cases b<;>rfl
  | invoke r n=>rfl
 | _=>simp only[touch,hop]
def Closed(ops:Array Oper)(S:Nat->Bool):Prop:= ∀(i:Nat) (o:Oper),ops[i]? =some o->S i=true->∀e∈o.after.toList,Region.binds .any e=true->S e.on=true
structure OrderOk (ops:Array Oper) (bef:Array Nat):Prop where
 back: ∀(i:Nat) (o:Oper),ops[i]? =some o->∀e∈o.after.toList,Region.binds .any e=true->e.on<i
 bits: ∀(i j:Nat) (o o':Oper),ops[i]? =some o->ops[j]? =some o'->(bef.getD i 0).testBit j=true->∃e∈o.after.toList,Region.binds .any e=true/\(e.on=j\/(bef.getD e.on 0).testBit j=true)
 dst: ∀(i j:Nat) (o o':Oper) (d:Nat),ops[i]? =some o->ops[j]? =some o'->o.dst=some d->o'.dst=some d->i=j
 look: ∀(i j:Nat) (o o':Oper) (d:Nat),ops[i]? =some o->ops[j]? =some o'->o'.dst=some d->d∈looks ops o->i=j\/(bef.getD i 0).testBit j=true\/(bef.getD j 0).testBit i=true
theorem q5k{α:Type}{l:List α}{i:Nat}{x:α}(h:l[i]? =some x):(x,i)∈l.zipIdx:=by rw[zb1];exact⟨i,by simp[h]⟩
theorem qx3{ops:Array Oper}{bef:Array Nat}(h:q9f ops bef=true):OrderOk ops bef:=by
 unfold q9f at h;have hi: ∀(i:Nat) (o:Oper),ops[i]? =some o->_:=fun i o ho=>zai.1 h (o,i) (q5k (by simpa using ho));have h1:=fun i o ho=>(zab _ _▸hi i o ho:_/\_);refine⟨fun i o ho e he hb=> ?_,fun i j o o' ho ho' hbit=> ?_,fun i j o o' d ho ho' hd hd'=> ?_,fun i j o o' d ho ho' hd hl=> ?_⟩
 ·have:=(h1 i o ho).1;have:=Array.all_eq_true_iff_forall_mem.1 this e (by simpa using he);simp only[hb,zct,Bool.false_or] at this;simpa [zb9] using this
 ·have h2:=zai.1 (h1 i o ho).2 (o',j) (q5k (by simpa using ho'));simp only[zab,hbit,zct,Bool.false_or] at h2;have h3:=h2.1.1;rw[<- Array.any_toList] at h3;obtain⟨e,he,hx⟩:=zda.1 h3;simp only[zab,zbz] at hx;exact⟨e,he,hx.1,hx.2.imp (fun h=>qag.1 h) id⟩
 ·have h2:=zai.1 (h1 i o ho).2 (o',j) (q5k (by simpa using ho'));simp only[zab] at h2;have h3:=h2.1.2;simp only[xbj1,hd,hd',zbk,zct,Bool.or_false] at h3;exact qag.1 h3
 ·have h2:=zai.1 (h1 i o ho).2 (o',j) (q5k (by simpa using ho'));simp only[zab] at h2;have h3:=h2.2;simp only[hd,zbz] at h3;rcases h3 with((h3|h3)|h3)|h3
  ·exact .inl (qag.1 h3)
  ·exact .inr (.inl h3)
  ·exact .inr (.inr h3)
  ·have:=zai.1 h3 d hl;simp[zbk] at this
theorem quv{ops:Array Oper}{bef:Array Nat}(hok:OrderOk ops bef){S:Nat->Bool}(hc:Closed ops S): ∀(i j:Nat) (o o':Oper),ops[i]? =some o->ops[j]? =some o'->S i=true->(bef.getD i 0).testBit j=true->S j=true:=by
 intro i
 induction i using Nat.strongRecOn with
 | _ i ih=>
  intro j o o' ho ho' hS hb;obtain⟨e,he,hbind,hx⟩:=hok.bits i j o o' ho ho' hb;have hSe:=hc i o ho hS e he hbind;rcases hx with rfl|hx
  ·exact hSe
  ·have hlt:=hok.back i o ho e he hbind;have hsz:i<ops.size:=by
    rcases zbo i ops.size with h|h
    ·exact h
    ·rw[zcp h] at ho;cases ho
   exact ih e.on hlt j _ o' (zbe (by omega)) ho' hSe hx
end
abbrev SH:=List (Nat×V)×Heap
def stP(st0:SH)(rs:List Rec):SH:=qcs (fun _=>true) 0 rs st0
theorem qxp(r:Rec): ∀(rs:List Rec) (i:Nat) (st:SH),qcs (fun _=>true) i (rs++[r]) st=(setD (qcs (fun _=>true) i rs st).1 r.d r.v,updH (qcs (fun _=>true) i rs st).2 r.u)
 | [],i,st=>rfl
 | x::rs,i,st=>by simp only[za8,qcs,cond_true];exact qxp r rs (i+1) _
theorem xbdc(st0:SH)(rs:List Rec)(r:Rec):stP st0 (rs++[r])=(setD (stP st0 rs).1 r.d r.v,updH (stP st0 rs).2 r.u):=qxp r rs 0 st0
section
variable {P:Program} {E:Env} {β:Type}
structure Skip (ops:Array Oper) (st:SH) (o:Oper) (rc:Rec):Prop where
 guard: ∃j want d,o.guard=some (j,want)/\(ops[j]?).bind (·.dst)=some d/\(getV st.1 d=.tup []\/∃b,getV st.1 d=.cl (.bool b)/\b≠want)
 v:rc.v=.tup []
 u:rc.u=[]
def Goes(ops:Array Oper)(st:SH)(o:Oper):Prop:=o.guard=none\/∃j want d,o.guard=some (j,want)/\(ops[j]?).bind (·.dst)=some d/\getV st.1 d=.cl (.bool want)
structure Ran (P:Program) (E:Env) (ops:Array Oper) (bef:Array Nat) (st:SH) (i:Nat) (o:Oper) (rc:Rec):Prop where
 goes:Goes ops st o
 dok:xbek E o=true
 keys: ∀x∈rc.u,x.1∈(touch E st.1 st.2 o).2\/x.1∈makes E o
 run: ∀ {γ:Type} (k':V->Upd->Option γ) (kp':CV->Upd->Option γ),opK P E st.1 st.2 o k' kp'=k' rc.v rc.u
 clean:q6k E i (bef.getD i 0) rc.v rc.u 0 ops.toList=true
 cleanF:cleanF E i (bef.getD i 0) ((touch E st.1 st.2 o).1++(touch E st.1 st.2 o).2) 0 ops.toList=true
def xbo5(P:Program)(E:Env)(ops:Array Oper)(bef:Array Nat)(st:SH)(i:Nat)(o:Oper)(rc:Rec):Prop:=rc.d=o.dst/\(Skip ops st o rc\/Ran P E ops bef st i o rc)
structure Runs0 (P:Program) (E:Env) (ops:Array Oper) (bef:Array Nat) (st0:SH) (rs:List Rec) (fps:List (Nat×List Nat×List Nat)):Prop where
 step: ∀(i:Nat) (o:Oper) (rc:Rec),ops[i]? =some o->rs[i]? =some rc->xbo5 P E ops bef (stP st0 (rs.take i)) i o rc
 fp: ∀(i:Nat) (o:Oper) (rc:Rec),ops[i]? =some o->rs[i]? =some rc->Ran P E ops bef (stP st0 (rs.take i)) i o rc->
  (i,touch E (stP st0 (rs.take i)).1 (stP st0 (rs.take i)).2 o)∈fps
 pair: ∀(i j:Nat) (o o':Oper) (rc rc':Rec),ops[i]? =some o->ops[j]? =some o'->rs[i]? =some rc->rs[j]? =some rc'->j<i->Ran P E ops bef (stP st0 (rs.take i)) i o rc->Ran P E ops bef (stP st0 (rs.take j)) j o' rc'->
  (bef.getD i 0).testBit j=true\/clash (touch E (stP st0 (rs.take j)).1 (stP st0 (rs.take j)).2 o') (touch E (stP st0 (rs.take i)).1 (stP st0 (rs.take i)).2 o)=false
theorem qpt{bits:Nat}{fp:List Nat×List Nat}: ∀ {l:List (Nat×List Nat×List Nat)},apart bits fp l=true->∀x∈l,bits.testBit x.1=true\/clash x.2 fp=false
 | [],_,x,hx=>by cases hx
 | (i,f)::r,h,x,hx=>by
  simp only[apart,zab,zbz,zao] at h;rcases zas.1 hx with rfl|hx
  ·exact h.1
  ·exact qpt h.2 x hx
theorem q5a{α:Type}{rs:List α}{x:α}{i:Nat}(h:i<=rs.length):(rs++[x]).take i=rs.take i:=by rw[List.take_append_of_le_length h]
theorem Runs0.snoc{ops:Array Oper}{bef:Array Nat}{st0:SH}{rs:List Rec}{fps fps':List (Nat×List Nat×List Nat)}(h:Runs0 P E ops bef st0 rs fps){o:Oper}{rc:Rec}(ho:ops[rs.length]? =some o)(hst:xbo5 P E ops bef (stP st0 rs) rs.length o rc)(hsub: ∀x∈fps,x∈fps')(hfp:Ran P E ops bef (stP st0 rs) rs.length o rc->(rs.length,touch E (stP st0 rs).1 (stP st0 rs).2 o)∈fps'/\apart (bef.getD rs.length 0) (touch E (stP st0 rs).1 (stP st0 rs).2 o) fps=true):
  Runs0 P E ops bef st0 (rs++[rc]) fps':=by
 have hcase: ∀(i:Nat) (x:Rec),(rs++[rc])[i]? =some x->(i<rs.length/\rs[i]? =some x/\(rs++[rc]).take i=rs.take i)\/(i=rs.length/\x=rc/\(rs++[rc]).take i=rs):=fun i x hx=>by
  by_cases hl:i<rs.length
  ·rw[zax hl] at hx;exact .inl ⟨hl,hx,q5a (by omega)⟩
  ·rw[zav (by omega)] at hx;have h0:i - rs.length=0:=by
    cases hd:i - rs.length with
    | zero=>rfl
    | succ n=>rw[hd] at hx;simp at hx
   rw[h0] at hx;simp only[za4,zaa] at hx;have hi:i=rs.length:=by omega
   refine .inr ⟨hi,hx.symm, ?_⟩;rw[hi,q5a (zar _),zb4]
 refine⟨fun i o' x ho' hx=> ?_,fun i o' x ho' hx hr=> ?_,fun i j o1 o2 x y h1 h2 hx hy hlt hr1 hr2=> ?_⟩
 ·rcases hcase i x hx with⟨_,c2,c3⟩|⟨c1,c2,c3⟩
  ·rw[c3];exact h.step i o' x ho' c2
  ·subst c1 c2;rw[ho] at ho';simp only[zaa] at ho';subst ho';rw[c3];exact hst
 ·rcases hcase i x hx with⟨_,c2,c3⟩|⟨c1,c2,c3⟩
  ·rw[c3] at hr ⊢;exact hsub _ (h.fp i o' x ho' c2 hr)
  ·subst c1 c2;rw[ho] at ho';simp only[zaa] at ho';subst ho';rw[c3] at hr ⊢;exact(hfp hr).1
 ·rcases hcase j y hy with⟨d1,d2,d3⟩|⟨d1,d2,d3⟩
  ·rw[d3] at hr2 ⊢;rcases hcase i x hx with⟨_,c2,c3⟩|⟨c1,c2,c3⟩
   ·rw[c3] at hr1 ⊢;exact h.pair i j o1 o2 x y h1 h2 c2 d2 hlt hr1 hr2
   ·subst c1 c2;rw[ho] at h1;simp only[zaa] at h1;subst h1;rw[c3] at hr1 ⊢;exact qpt (hfp hr1).2 _ (h.fp j o2 y h2 d2 hr2)
  ·exfalso;rcases hcase i x hx with⟨c1,_,_⟩|⟨c1,_,_⟩<;>omega
theorem xbjl{s s':List (Nat×V)}(h: ∀t,getV s' t=getV s t)(x:Operand):opd E s' x=opd E s x:=by
 cases x with
 | tmp t=>exact h t
 | _=>rfl
theorem q0v{s:List (Nat×V)}{d:Nat}{f:Bool->List (Nat×V)->Option β}{r:β}(h:decK s d f=some r): ∃b s',f b s'=some r/\(∀t,getV s' t=getV s t)/\getV s d=.cl (.bool b):=by
 unfold decK at h;split at h
 ·rename_i b hb;refine⟨b,qct s d (.cl (.bool b)),by cases b<;>exact h,fun t=> ?_,hb⟩;rw[qqb];split
  ·rename_i e;subst e;exact hb.symm
  ·rfl
 ·cases h
theorem xbad{s:List (Nat×V)}{d:Nat}{want:Bool}{go skip:List (Nat×V)->Option β}{r:β}(h:q6t s d want go skip=some r): ∃s',(∀t,getV s' t=getV s t)/\
  ((go s'=some r/\getV s d=.cl (.bool want))\/(skip s'=some r/\(getV s d=.tup []\/∃b,getV s d=.cl (.bool b)/\b≠want))):=by
 unfold q6t at h;split at h
 ·rename_i hd;exact⟨s,fun _=>rfl,.inr ⟨h,.inl hd⟩⟩
 ·obtain⟨b,s',h1,h2,h3⟩:=q0v h;refine⟨s',h2, ?_⟩;cases b<;>cases want<;>simp only at h1
  ·exact .inl ⟨h1,h3⟩
  ·exact .inr ⟨h1,.inr ⟨_,h3,by simp⟩⟩
  ·exact .inr ⟨h1,.inr ⟨_,h3,by simp⟩⟩
  ·exact .inl ⟨h1,h3⟩
theorem xbgi{s:List (Nat×V)}{o:Op}{f:List (Nat×V)->Option β}{r:β}(h:xbjv E s o f=some r): ∃s',f s'=some r/\∀t,getV s' t=getV s t:=by
 unfold xbjv at h;split at h
 ·obtain⟨b,s',h1,h2,_⟩:=q0v h;exact⟨s',h1,h2⟩
 ·split at h
  ·split at h
   ·obtain⟨b,s',h1,h2,_⟩:=q0v h;exact⟨s',h1,h2⟩
   ·exact⟨s,h,fun _=>rfl⟩
  ·exact⟨s,h,fun _=>rfl⟩
 ·exact⟨s,h,fun _=>rfl⟩
theorem xboc{s s':List (Nat×V)}(h: ∀t,getV s' t=getV s t)(d:Option Tmp)(v:V)(t:Nat):getV (setD s' d v) t=getV (setD s d v) t:=by rw[qdx,qdx,h]
structure Panics (P:Program) (E:Env) (ops:Array Oper) (bef:Array Nat) (st0:SH) {β:Type} (k:Ex->St->Option β) (r:β) (rs:List Rec) (fps:List (Nat×List Nat×List Nat)) (o:Oper) (c:CV) (u:Upd):Prop where
 runs:Runs0 P E ops bef st0 rs fps
 at':ops[rs.length]? =some o
 goes:Goes ops (stP st0 rs) o
 run: ∀ {γ:Type} (k':V->Upd->Option γ) (kp':CV->Upd->Option γ),opK P E (stP st0 rs).1 (stP st0 rs).2 o k' kp'=kp' c u
 apart:apart (bef.getD rs.length 0) (touch E (stP st0 rs).1 (stP st0 rs).2 o) fps=true
 cleanF:cleanF E rs.length (bef.getD rs.length 0) ((touch E (stP st0 rs).1 (stP st0 rs).2 o).1++(touch E (stP st0 rs).1 (stP st0 rs).2 o).2) 0 ops.toList=true
 noWrites:noWrites (bef.getD rs.length 0) fps=true
 after:qmv bef rs.length (List.range ops.size)=true
 out:k (.pan c) ⟨[],qp7 (updH (stP st0 rs).2 u)⟩=some r
theorem qks{ops:Array Oper}{bef:Array Nat}{st0:SH}{k:Ex->St->Option β}{r:β}: ∀(l:List Oper) (σ:St) (rs:List Rec) (fps:List (Nat×List Nat×List Nat)),xbe0 P E ops bef rs.length fps l σ k=some r->
  (∀m,m<l.length->l[m]? =ops[rs.length+m]?)->(∀t,getV σ.slots t=getV (stP st0 rs).1 t)->σ.heap=(stP st0 rs).2->Runs0 P E ops bef st0 rs fps->
  (∃rs' fps' σ',rs'.length=rs.length+l.length/\Runs0 P E ops bef st0 rs' fps'/\k .normal σ'=some r/\(∀t,getV σ'.slots t=getV (stP st0 rs').1 t)/\σ'.heap=(stP st0 rs').2)\/
   ∃rs' fps' o c u,Panics P E ops bef st0 k r rs' fps' o c u
 | [],σ,rs,fps,h,hl,hs,hH,hR=>.inl ⟨rs,fps,σ,by simp,hR,h,hs,hH⟩
 | o::rest,σ,rs,fps,h,hl,hs,hH,hR=>by
  have ho:ops[rs.length]? =some o:=by have:=hl 0 (by simp);simpa using this.symm
  have hl': ∀m,m<rest.length->rest[m]? =ops[rs.length+1+m]? :=fun m hm=>by have:=hl (m+1) (by simp;omega);rw[show rs.length+(m+1)=rs.length+1+m by omega] at this;simpa using this
  have next: ∀(rc:Rec) (s2:List (Nat×V)) (fps2:List (Nat×List Nat×List Nat)),xbe0 P E ops bef (rs.length+1) fps2 rest ⟨setD s2 rc.d rc.v,updH σ.heap rc.u⟩ k=some r->(∀t,getV s2 t=getV σ.slots t)->Runs0 P E ops bef st0 (rs++[rc]) fps2->
    (∃rs' fps' σ',rs'.length=rs.length+(o::rest).length/\Runs0 P E ops bef st0 rs' fps'/\k .normal σ'=some r/\(∀t,getV σ'.slots t=getV (stP st0 rs').1 t)/\σ'.heap=(stP st0 rs').2)\/
     ∃rs' fps' o c u,Panics P E ops bef st0 k r rs' fps' o c u:=fun rc s2 fps2 hd hs2 hR2=>by
   have hlen:(rs++[rc]).length=rs.length+1:=by simp
   have:=qks rest ⟨setD s2 rc.d rc.v,updH σ.heap rc.u⟩ (rs++[rc]) fps2 (by rw[hlen];exact hd) (by rw[hlen];exact hl') (fun t=>by rw[xbdc];exact xboc (fun t=>(hs2 t).trans (hs t)) _ _ t) (by rw[xbdc,hH]) hR2;rw[hlen] at this;rcases this with⟨a,b,c,h1,h2⟩|h2
   ·exact .inl ⟨a,b,c,by rw[h1,zaf];omega,h2⟩
   ·exact .inr h2
  have go: ∀s,(∀t,getV s t=getV σ.slots t)->Goes ops (stP st0 rs) o->(xbjv E s o.op fun s=>
    cond (apart (bef.getD rs.length 0) (touch E s σ.heap o) fps&&xbek E o&&cleanF E rs.length (bef.getD rs.length 0) ((touch E s σ.heap o).1++(touch E s σ.heap o).2) 0 ops.toList)
    (opK P E s σ.heap o (fun v u=>cond (q6k E rs.length (bef.getD rs.length 0) v u 0 ops.toList) (xbe0 P E ops bef (rs.length+1) ((rs.length,touch E s σ.heap o)::fps) rest ⟨setD s o.dst v,updH σ.heap u⟩ k) none)
     (fun c u=>cond (noWrites (bef.getD rs.length 0) fps&&qmv bef rs.length (List.range ops.size)) (k (.pan c) ⟨[],qp7 (updH σ.heap u)⟩) none)) none)=some r->
    (∃rs' fps' σ',rs'.length=rs.length+(o::rest).length/\Runs0 P E ops bef st0 rs' fps'/\k .normal σ'=some r/\(∀t,getV σ'.slots t=getV (stP st0 rs').1 t)/\σ'.heap=(stP st0 rs').2)\/
     ∃rs' fps' o c u,Panics P E ops bef st0 k r rs' fps' o c u:=fun s hse hg hgo=>by
   obtain⟨s',h1,h2⟩:=xbgi hgo;have hse': ∀t,getV s' t=getV (stP st0 rs).1 t:=fun t=>(h2 t).trans ((hse t).trans (hs t));have htouch:touch E s' σ.heap o=touch E (stP st0 rs).1 (stP st0 rs).2 o:=by rw[hH];exact q7p (fun x _=>xbjl hse' x) fun _=>rfl
   have hop: ∀ {γ:Type} (k':V->Upd->Option γ) (kp':CV->Upd->Option γ),opK P E s' σ.heap o k' kp'=opK P E (stP st0 rs).1 (stP st0 rs).2 o k' kp':=fun k' kp'=>by rw[hH];exact q1l (fun x _=>xbjl hse' x) (fun _ _=>rfl) (fun _ _=>rfl)
   replace h1:=qaa h1;obtain⟨hc,h1⟩:=h1;simp only[zab] at hc;obtain⟨⟨hc1,hc2⟩,hc3⟩:=hc;rw[htouch] at hc1 hc3;rcases xbxp h1 with⟨v,u,h3,hrun⟩|⟨c,u,h3,hrun⟩
   ·replace h3:=qaa h3;obtain⟨hcl,h3⟩:=h3;have hrun': ∀ {γ:Type} (k':V->Upd->Option γ) (kp':CV->Upd->Option γ),opK P E (stP st0 rs).1 (stP st0 rs).2 o k' kp'=k' v u:=fun k' kp'=>(hop k' kp').symm.trans (hrun k' kp');have hran:Ran P E ops bef (stP st0 rs) rs.length o ⟨o.dst,v,u⟩:=⟨hg,hc2,xbsg (hrun' _ _),hrun',hcl,hc3⟩;rw[htouch] at h3;exact next ⟨o.dst,v,u⟩ s' _ h3 (fun t=>(h2 t).trans (hse t)) (hR.snoc ho ⟨rfl,.inr hran⟩ (fun x hx=>zaw _ hx) fun _=>⟨zbj,hc1⟩)
   ·replace h3:=qaa h3;obtain⟨hcl,h3⟩:=h3;simp only[zab] at hcl;have hrun': ∀ {γ:Type} (k':V->Upd->Option γ) (kp':CV->Upd->Option γ),opK P E (stP st0 rs).1 (stP st0 rs).2 o k' kp'=kp' c u:=fun k' kp'=>(hop k' kp').symm.trans (hrun k' kp');rw[hH] at h3;exact .inr ⟨rs,fps,o,c,u,hR,ho,hg,hrun',hc1,hc3,hcl.1,hcl.2,h3⟩
  simp only[xbe0] at h
  cases hg:o.guard with
  | none=>
   simp only[hg] at h;exact go σ.slots (fun _=>rfl) (.inl hg) h
  | some jw=>
   obtain⟨j,want⟩:=jw;simp only[hg] at h
   cases hd:(ops[j]?).bind (·.dst) with
   | none=>simp only[hd] at h;cases h
   | some d=>
    simp only[hd] at h;obtain⟨s',h2,⟨h1,h3⟩|⟨h1,h3⟩⟩:=xbad h
    ·rw[hs] at h3;exact go s' h2 (.inr ⟨j,_,d,hg,hd,h3⟩) h1
    ·rw[hs] at h3;exact next ⟨o.dst,.tup [],[]⟩ s' fps h1 h2 (hR.snoc ho ⟨rfl,.inl ⟨⟨j,want,d,hg,hd,h3⟩,rfl,rfl⟩⟩ (fun x hx=>hx) fun hran=>by
      exfalso;rcases hran.goes with e|⟨j',w',d',e1,e2,e3⟩
      ·rw[hg] at e;cases e
      ·rw[hg] at e1;simp only[zaa,zbb] at e1;obtain⟨rfl,rfl⟩:=e1;rw[hd] at e2;simp only[zaa] at e2;subst e2;rw[e3] at h3;rcases h3 with h3|⟨b,h3,hne⟩
       ·cases h3
       ·simp only[V.cl.injEq,CV.bool.injEq] at h3;exact hne h3.symm)
end
section
variable {P:Program} {E:Env} {β:Type}
theorem qlj: ∀(l:List Rec) (i:Nat) (S:Nat->Bool) (st:SH),(∀j,i<=j->S j=false)->qcs S i l st=st
 | [],i,S,st,_=>rfl
 | x::l,i,S,st,h=>by simp only[qcs,h i (zar _),cond_false];exact qlj l (i+1) S st fun j hj=>h j (by omega)
theorem qu1(n:Nat): ∀(rs:List Rec) (i:Nat) (st:SH),qcs (fun _=>true) i (rs.take n) st=qcs (fun j=>Nat.blt j (i+n)) i rs st:=by
 induction n with
 | zero=>
  intro rs i st;rw[List.take_zero,qlj rs i (fun j=>Nat.blt j (i+0)) st fun j hj=>by rw[zau];intro h;simp[zb9] at h;omega];rfl
 | succ n ih=>
  intro rs i st
  cases rs with
  | nil=>rfl
  | cons x rs=>
   have hb:Nat.blt i (i+(n+1))=true:=by simp[zb9]
   simp only[zdn,qcs,hb,cond_true];rw[ih rs (i+1),show i+1+n=i+(n+1) by omega]
theorem q0l{ops:Array Oper}{bef:Array Nat}(hok:OrderOk ops bef): ∀(i j:Nat) (o o':Oper),ops[i]? =some o->ops[j]? =some o'->(bef.getD i 0).testBit j=true->j<i:=by
 intro i
 induction i using Nat.strongRecOn with
 | _ i ih=>
  intro j o o' ho ho' hb;obtain⟨e,he,hbind,hx⟩:=hok.bits i j o o' ho ho' hb;have hlt:=hok.back i o ho e he hbind;rcases hx with rfl|hx
  ·exact hlt
  ·have hsz:i<ops.size:=by
    rcases zbo i ops.size with h|h
    ·exact h
    ·rw[zcp h] at ho;cases ho
   have:=ih e.on hlt j _ o' (zbe (by omega)) ho' hx;omega
def Due(ops:Array Oper)(S:Nat->Bool)(i:Nat)(o:Oper):Prop:=S i=false/\∀e∈o.after.toList,Region.binds .any e=true->S e.on=true
theorem qk9{ops:Array Oper}{bef:Array Nat}(hok:OrderOk ops bef){S:Nat->Bool}(hc:Closed ops S){i j:Nat}{o o':Oper}(ho:ops[i]? =some o)(ho':ops[j]? =some o')(hd:Due ops S i o)(hb:(bef.getD i 0).testBit j=true):S j=true:=by
 obtain⟨e,he,hbind,hx⟩:=hok.bits i j o o' ho ho' hb;rcases hx with rfl|hx
 ·exact hd.2 e he hbind
 ·have hlt:=hok.back i o ho e he hbind;have hsz:i<ops.size:=by
   rcases zbo i ops.size with h|h
   ·exact h
   ·rw[zcp h] at ho;cases ho
  exact quv hok hc e.on j _ o' (zbe (by omega)) ho' (hd.2 e he hbind) hx
theorem unordered{ops:Array Oper}{bef:Array Nat}(hok:OrderOk ops bef){S:Nat->Bool}(hc:Closed ops S){i j:Nat}{o o':Oper}(ho:ops[i]? =some o)(ho':ops[j]? =some o')(hd:Due ops S i o)(hne:S j≠Nat.blt j i):
  j≠i/\(bef.getD i 0).testBit j=false/\(bef.getD j 0).testBit i=false:=by
 have hbl: ∀a b,Nat.blt a b=true↔a<b:=fun a b=>by simp[zb9]
 refine⟨fun e=> ?_, ?_, ?_⟩
 ·subst e;apply hne;rw[hd.1];symm;rw[zau];intro h;have:=(hbl j j).1 h;omega
 ·rw[zau];intro hb;apply hne;rw[qk9 hok hc ho ho' hd hb,(hbl j i).2 (q0l hok i j o o' ho ho' hb)]
 ·rw[zau];intro hb;have hlt:=q0l hok j i o' o ho' ho hb
  cases hS:S j with
  | true=>
   have:=quv hok hc j i o' o ho' ho hS hb;rw[hd.1] at this;cases this
  | false=>
   apply hne;rw[hS];symm;rw[zau];intro h;have:=(hbl j i).1 h;omega
theorem xbm0{ops:Array Oper}{rs:List Rec}(hlen:rs.length<=ops.size){j:Nat}{x:Rec}(h:rs[j]? =some x): ∃o,ops[j]? =some o:=by have:=(zad.1 h).1;exact⟨_,zbe (by omega)⟩
theorem qws{ops:Array Oper}{bef:Array Nat}{st0:SH}{rs:List Rec}{fps:List (Nat×List Nat×List Nat)}(hok:OrderOk ops bef)(hR:Runs0 P E ops bef st0 rs fps)(hlen:rs.length<=ops.size){S:Nat->Bool}(hc:Closed ops S){i:Nat}{o:Oper}(ho:ops[i]? =some o)(hd:Due ops S i o){t:Nat}(ht:t∈looks ops o):getV (qcs S 0 rs st0).1 t=getV (stP st0 (rs.take i)).1 t:=by
 unfold stP;rw[qu1];refine qjk rfl fun j x hj hne hx=> ?_;rw[za1,za1] at hne;obtain⟨o',ho'⟩:=xbm0 hlen hj;obtain⟨u1,u2,u3⟩:=unordered hok hc ho ho' hd hne;rcases hok.look i j o o' t ho ho' ((hR.step j o' x ho' hj).1.symm.trans hx) ht with e|e|e
 ·exact u1 e.symm
 ·rw[u2] at e;cases e
 ·rw[u3] at e;cases e
theorem qjh{j bits:Nat}{fp:List Nat}: ∀ {l:List Oper} {i:Nat},cleanF E j bits fp i l=true->∀(m:Nat) (o:Oper),l[m]? =some o->i+m=j\/bits.testBit (i+m)=true\/meets (makes E o) fp=false
 | [],i,h,m,o,hm=>by simp at hm
 | x::r,i,h,m,o,hm=>by
  simp only[cleanF,zab,zbz,zao] at h
  cases m with
  | zero=>
   simp at hm;subst hm;rcases h.1 with(h1|h1)|h1
   ·exact .inl (qag.1 h1)
   ·exact .inr (.inl h1)
   ·exact .inr (.inr h1)
  | succ m=>
   have:=qjh h.2 m o (by simpa using hm);rw[show i+1+m=i+(m+1) by omega] at this;exact this
theorem qco{a b:List Nat}(h:meets a b=false){p:Nat}(ha:p∈a)(hb:p∈b):False:=by have:=List.any_eq_false.1 h p ha;exact this (zda.2 ⟨p,hb,zbk p⟩)
theorem xbdv{ops:Array Oper}{bef:Array Nat}{st0:SH}{rs:List Rec}{fps:List (Nat×List Nat×List Nat)}(hok:OrderOk ops bef)(hR:Runs0 P E ops bef st0 rs fps)(hlen:rs.length<=ops.size){S:Nat->Bool}(hc:Closed ops S){i:Nat}{o:Oper}{rc:Rec}(ho:ops[i]? =some o)(hrc:rs[i]? =some rc)(hd:Due ops S i o)(hran:Ran P E ops bef (stP st0 (rs.take i)) i o rc){p:Nat}(hp:p∈(touch E (stP st0 (rs.take i)).1 (stP st0 (rs.take i)).2 o).1\/p∈(touch E (stP st0 (rs.take i)).1 (stP st0 (rs.take i)).2 o).2):
  qaj (qcs S 0 rs st0).2 p=qaj (stP st0 (rs.take i)).2 p:=by
 have e:stP st0 (rs.take i)=qcs (fun j=>Nat.blt j (0+i)) 0 rs st0:=by unfold stP;rw[qu1]
 have hgoal:qaj (qcs S 0 rs st0).2 p=qaj (qcs (fun j=>Nat.blt j (0+i)) 0 rs st0).2 p:=by
  refine qfk rfl fun j x hj hne y hy hyp=> ?_;rw[za1,za1] at hne;obtain⟨o',ho'⟩:=xbm0 hlen hj;obtain⟨u1,u2,u3⟩:=unordered hok hc ho ho' hd hne;rcases(hR.step j o' x ho' hj).2 with hsk|hrj
  ·rw[hsk.u] at hy;cases hy
  ·rcases hrj.keys y hy with hk|hk
   ·rw[hyp] at hk;rcases zbo j i with hlt|hge
    ·rcases hR.pair i j o o' rc x ho ho' hrc hj hlt hran hrj with hb|hb
     ·rw[u2] at hb;cases hb
     ·simp only[clash,zcm] at hb;rcases hp with hp|hp
      ·exact qco hb.1.1 hk hp
      ·exact qco hb.1.2 hk hp
    ·rcases hR.pair j i o' o x rc ho' ho hj hrc (by omega) hrj hran with hb|hb
     ·rw[u3] at hb;cases hb
     ·simp only[clash,zcm] at hb;rcases hp with hp|hp
      ·exact qco hb.2 hp hk
      ·exact qco hb.1.2 hp hk
   ·rw[hyp] at hk;rcases qjh hran.cleanF j o' (by simpa using ho') with h1|h1|h1
    ·omega
    ·rw[za1,u2] at h1;cases h1
    ·exact qco h1 hk (zak.2 hp)
 rw[hgoal,e]
theorem qm0{j bits:Nat}{v:V}{u:Upd}: ∀ {l:List Oper} {i:Nat},q6k E j bits v u i l=true->∀(m:Nat) (o:Oper),l[m]? =some o->i+m=j\/bits.testBit (i+m)=true\/∀p∈makes E o,qdj p v=false/\qmc p u=true
 | [],i,h,m,o,hm=>by simp at hm
 | x::r,i,h,m,o,hm=>by
  simp only[q6k,zab,zbz] at h
  cases m with
  | zero=>
   simp at hm;subst hm;rcases h.1 with(h1|h1)|h1
   ·exact .inl (qag.1 h1)
   ·exact .inr (.inl h1)
   ·refine .inr (.inr fun p hp=> ?_);have:=zai.1 h1 p hp;simp only[zab,zao] at this;exact this
  | succ m=>
   have:=qm0 h.2 m o (by simpa using hm);rw[show i+1+m=i+(m+1) by omega] at this;exact this
theorem qsz{p:Nat}: ∀ {u:Upd},qmc p u=true->∀x∈u,x.1≠p
 | [],_,x,hx=>by cases hx
 | (q,ob)::r,h,x,hx=>by
  simp only[qmc,zab,zao] at h;rcases zas.1 hx with rfl|hx
  ·exact qa7 h.1.1
  ·exact qsz h.2 x hx
theorem qru{ops:Array Oper}{bef:Array Nat}{st0:SH}{rs:List Rec}{fps:List (Nat×List Nat×List Nat)}(hok:OrderOk ops bef)(hR:Runs0 P E ops bef st0 rs fps)(hlen:rs.length<=ops.size){S:Nat->Bool}{i:Nat}{rc:Rec}(hrc:rs[i]? =some rc)(hS:S i=false)(t:Nat):
  getV (setD (qcs S 0 rs st0).1 rc.d rc.v) t=getV (qcs (fun j=>S j|| Nat.beq j i) 0 rs st0).1 t:=by
 obtain⟨o,ho⟩:=xbm0 hlen hrc;rw[qdx];split
 ·rename_i hdt;have:=qof (t:=t) (S:=S) (rs:=rs) (i:=0) (m:=i) (r:=rc) (st:=st0) hrc (by rw[za1];exact hS) hdt fun j x hj hne hx=>by obtain⟨o',ho'⟩:=xbm0 hlen hj;exact hne (hok.dst j i o' o t ho' ho ((hR.step j o' x ho' hj).1.symm.trans hx) ((hR.step i o rc ho hrc).1.symm.trans hdt))
  rw[za1] at this;exact this.symm
 ·rename_i hdt;refine qjk rfl fun j x hj hne hx=> ?_;rw[za1] at hne
  cases hb:Nat.beq j i with
  | true=>
   obtain rfl:=qag.1 hb;rw[hrc] at hj;simp only[zaa] at hj;subst hj;exact hdt hx
  | false=>simp[hb] at hne
theorem qrt{ops:Array Oper}{bef:Array Nat}{st0:SH}{rs:List Rec}{fps:List (Nat×List Nat×List Nat)}(hok:OrderOk ops bef)(hR:Runs0 P E ops bef st0 rs fps)(hlen:rs.length<=ops.size){S:Nat->Bool}(hc:Closed ops S){i:Nat}{o:Oper}{rc:Rec}(ho:ops[i]? =some o)(hrc:rs[i]? =some rc)(hd:Due ops S i o)(p:Nat):qaj (updH (qcs S 0 rs st0).2 rc.u) p=qaj (qcs (fun j=>S j|| Nat.beq j i) 0 rs st0).2 p:=by
 by_cases hk: ∃x∈rc.u,x.1=p
 ·have:=qoe (p:=p) (S:=S) (rs:=rs) (i:=0) (m:=i) (r:=rc) (st:=st0) (H:=(qcs S 0 rs st0).2) hrc hk fun j y hj hlt hSj z hz hzp=>by
   rw[za1] at hSj;obtain⟨o',ho'⟩:=xbm0 hlen hj;have hbit:(bef.getD j 0).testBit i=false:=by rw[zau];intro hb;have:=quv hok hc j i o' o ho' ho hSj hb;rw[hd.1] at this;cases this
   have hbit2:(bef.getD i 0).testBit j=false:=by rw[zau];intro hb;have:=q0l hok i j o o' ho ho' hb;omega
   rcases(hR.step j o' y ho' hj).2 with hsk|hrj
   ·rw[hsk.u] at hz;cases hz
   ·obtain⟨x,hx,hxp⟩:=hk;rcases(hR.step i o rc ho hrc).2 with hsk|hri
    ·rw[hsk.u] at hx;cases hx
    ·rcases hri.keys x hx with h1|h1
     ·rw[hxp] at h1;rcases hrj.keys z hz with h2|h2
      ·rw[hzp] at h2;rcases hR.pair j i o' o y rc ho' ho hj hrc hlt hrj hri with hb|hb
       ·rw[hbit] at hb;cases hb
       ·simp only[clash,zcm] at hb;exact qco hb.1.2 h1 h2
      ·rw[hzp] at h2;rcases qjh hri.cleanF j o' (by simpa using ho') with h3|h3|h3
       ·omega
       ·rw[za1,hbit2] at h3;cases h3
       ·exact qco h3 h2 (zak.2 (.inr h1))
     ·rw[hxp] at h1;rcases qm0 hrj.clean i o (by simpa using ho) with h3|h3|h3
      ·omega
      ·rw[za1,hbit] at h3;cases h3
      ·exact qsz (h3 p h1).2 z hz hzp
  rw[za1] at this;exact this.symm
 ·rw[qrw fun x hx e=>hk ⟨x,hx,e⟩];refine qfk rfl fun j x hj hne y hy hyp=> ?_;rw[za1] at hne
  cases hb:Nat.beq j i with
  | true=>
   obtain rfl:=qag.1 hb;rw[hrc] at hj;simp only[zaa] at hj;subst hj;exact hk ⟨y,hy,hyp⟩
  | false=>simp[hb] at hne
theorem Free.setD{p:Nat}{s:List (Nat×V)}{H:Heap}(h:Free p s H){d:Option Tmp}{v:V}(hv:qdj p v=false):Free p (YtoiikagnjcjccaaGreatDoorA.setD s d v) H:=by
 refine⟨h.big,h.none,fun t=> ?_,h.ob⟩;rw[qdx];split
 ·exact hv
 ·exact h.sl t
theorem Free.upd{p:Nat}{s:List (Nat×V)}: ∀ {u:Upd} {H:Heap},Free p s H->qmc p u=true->Free p s (updH H u)
 | [],H,h,_=>h
 | (q,.none)::r,H,h,hu=>by simp only[qmc,zab] at hu;exact Free.upd (u:=r) h.del hu.2
 | (q,.some ob)::r,H,h,hu=>by
  simp only[qmc,zab,zao] at hu;obtain⟨⟨h1,h2⟩,h3⟩:=hu;refine Free.upd (u:=r) (H:=qct H q ob) ⟨h.big, ?_,h.sl,fun x o hx l hl=> ?_⟩ h3
  ·rw[qau,if_neg fun e=>qa7 h1 e.symm];exact h.none
  ·rw[qau] at hx;split at hx
   ·simp only[zaa] at hx;subst hx;obtain⟨row,lock⟩:=ob;have hl:row=.var l:=hl;subst hl;simpa using h2
   ·exact h.ob x o hx l hl
theorem q3c{p:Nat}{S:Nat->Bool}: ∀ {rs:List Rec} {i:Nat} {st:SH},Free p st.1 st.2->(∀(j:Nat) (x:Rec),rs[j]? =some x->S (i+j)=true->qdj p x.v=false/\qmc p x.u=true)->Free p (qcs S i rs st).1 (qcs S i rs st).2
 | [],i,st,h,_=>h
 | x::rs,i,st,h,hn=>by
  simp only[qcs];refine q3c ?_ fun j y hj hs=>hn (j+1) y (by simpa using hj) (by rw[show i+(j+1)=i+1+j by omega];exact hs)
  cases hS:S i with
  | false=>exact h
  | true=>
   obtain⟨h1,h2⟩:=hn 0 x rfl hS;exact Free.upd (h.setD h1) h2
theorem xbdu{ops:Array Oper}{bef:Array Nat}{st0:SH}{rs:List Rec}{fps:List (Nat×List Nat×List Nat)}(hok:OrderOk ops bef)(hR:Runs0 P E ops bef st0 rs fps)(hlen:rs.length<=ops.size){S:Nat->Bool}(hc:Closed ops S){i:Nat}{o:Oper}(ho:ops[i]? =some o)(hS:S i=false){p:Nat}(hp:p∈makes E o)(hf:Free p st0.1 st0.2):Free p (qcs S 0 rs st0).1 (qcs S 0 rs st0).2:=by
 refine q3c hf fun j x hj hSj=> ?_;rw[za1] at hSj;obtain⟨o',ho'⟩:=xbm0 hlen hj;rcases(hR.step j o' x ho' hj).2 with hsk|hrj
 ·rw[hsk.v,hsk.u];exact⟨rfl,rfl⟩
 ·rcases qm0 hrj.clean i o (by simpa using ho) with h3|h3|h3
  ·rw[za1] at h3;subst h3;rw[hS] at hSj;cases hSj
  ·rw[za1] at h3;have:=quv hok hc j i o' o ho' ho hSj h3;rw[hS] at this;cases this
  ·exact h3 p hp
end
section
variable {P:Program} {E:Env}
theorem xba0{ops:Array Oper}{o:Oper}{t:Tmp}(h:Operand.tmp t∈o.op.operands):t∈looks ops o:=by unfold looks;refine zak.2 (.inl (List.mem_filterMap.2 ⟨.tmp t,by simpa using h,rfl⟩))
theorem qjo{ops:Array Oper}{o:Oper}{j d:Nat}{want:Bool}(hg:o.guard=some (j,want))(hd:(ops[j]?).bind (·.dst)=some d):d∈looks ops o:=by unfold looks;refine zak.2 (.inr ?_);simp[hg,hd]
theorem q2f{w0:Base}{bl I0:Nat->Prop}{ops:Array Oper}{bef:Array Nat}{st0:SH}{rs:List Rec}{fps:List (Nat×List Nat×List Nat)}{Q:Exit->Act->World->Prop}(hE: ∀g,Sound P E.glob g (ctr E g))(hok:OrderOk ops bef)(hR:Runs0 P E ops bef st0 rs fps)(hlen:rs.length<=ops.size)(hfree: ∀(i:Nat) (o:Oper),ops[i]? =some o->∀p∈makes E o,Free p st0.1 st0.2){S:Nat->Bool}(hc:Closed ops S){i:Nat}{o:Oper}{rc:Rec}(ho:ops[i]? =some o)(hrc:rs[i]? =some rc)(hd:Due ops S i o){a:Act}{w:World}(hO:On E w0 bl I0 ⟨(qcs S 0 rs st0).1,(qcs S 0 rs st0).2⟩ a w):
  wpOp P ops Q i (On E w0 bl I0 ⟨(qcs (fun j=>S j|| Nat.beq j i) 0 rs st0).1,(qcs (fun j=>S j|| Nat.beq j i) 0 rs st0).2⟩) a w:=by
 obtain⟨Im,ρ,hI⟩:=hO;have hI:Inv E w0 bl I0 (qcs S 0 rs st0).1 (qcs S 0 rs st0).2 a w Im ρ:=hI;have hstep:=hR.step i o rc ho hrc;have hgv: ∀(j want:Nat) (d:Nat) (b:Bool),d∈looks ops o->getV (stP st0 (rs.take i)).1 d=.cl (.bool b)->a.tmps.getD d undef=.bool b:=fun _ _ d b hl hv=>by have:=hI.sl d;rw[qws hok hR hlen hc ho hd hl,hv] at this;exact this.bool
 unfold wpOp;rw[ho];simp only;rcases hstep.2 with hsk|hran
 ·obtain⟨j,want,d,h1,h2,h3⟩:=hsk.guard;have hy:=qs1 (want:=want) (tmps:=a.tmps) h2 fun b hb=>by
   rcases h3 with h3|⟨b',h3,hne⟩
   ·have:=hI.sl d;rw[qws hok hR hlen hc ho hd (qjo h1 h2),h3,hb] at this;cases this
   ·have:=hgv 0 0 d b' (qjo h1 h2) h3;rw[this] at hb;cases hb;exact hne
  rw[if_neg (by simp[Region.wanted,h1,hy])];refine⟨Im,ρ,(hI.skipped o.dst).same (fun t=> ?_) fun p=> ?_⟩
  ·have:=qru hok hR hlen hrc hd.1 t;rw[hsk.v,hstep.1] at this;exact this.symm
  ·have:=qrt hok hR hlen hc ho hrc hd p;rw[hsk.u] at this;exact this.symm
 ·have hw:Region.wanted o (yielded ops a.tmps)=true:=by
   rcases hran.goes with hg|⟨j,want,d,h1,h2,h3⟩
   ·simp[Region.wanted,hg]
   ·have hy:=qr0 h2 (hgv 0 0 d want (qjo h1 h2) h3);simp[Region.wanted,h1,hy]
  rw[if_pos hw];left;have hop:opK P E (qcs S 0 rs st0).1 (qcs S 0 rs st0).2 o (fun v u=>some (v,u)) (fun _ _=>none)=some (rc.v,rc.u):=by
   rw[q1l (s:=(stP st0 (rs.take i)).1) (H:=(stP st0 (rs.take i)).2) (fun x hx=> ?_) (fun p hp=>xbdv hok hR hlen hc ho hrc hd hran (.inl hp)) (fun p hp=>xbdv hok hR hlen hc ho hrc hd hran (.inr hp)),hran.run]
   cases x with
   | tmp t=>exact qws hok hR hlen hc ho hd (xba0 hx)
   | _=>rfl
  refine qv0 hE hop hI (fun p hp=>xbdu hok hR hlen hc ho hd.1 hp (hfree i o ho p hp)) (fun v u x w' Im' ρ' hk hI' hv'=> ?_) fun c u x w' Im' ρ' hk=>by cases hk
  simp only[zaa,zbb] at hk;obtain⟨rfl,rfl⟩:=hk;have hdk: ∀t,o.dst=some t->t<E.nt:=fun t ht=>by have:=hran.dok;simp only[xbek,ht] at this;simpa [zb9] using this
  refine⟨Im',ρ',(hI'.put hdk hv').same (fun t=> ?_) fun p=>(qrt hok hR hlen hc ho hrc hd p).symm⟩;have:=qru hok hR hlen hrc hd.1 t;rw[hstep.1] at this;exact this.symm
end
theorem qpr{l:List Nat}: ∀(H:Heap) (p:Nat),qaj (trimH l H) p=cond (l.any (Nat.beq p)) (qaj H p) none
 | [],p=>by cases l.any (Nat.beq p)<;>rfl
 | (k,v)::r,p=>by
  have ih:=qpr (l:=l) r p;simp only[trimH];by_cases hk:k=p
  ·subst hk
   cases h:l.any (Nat.beq k) with
   | true=>simp only[cond_true,qaj,zbk]
   | false=>rw[h] at ih;simpa using ih
  ·have hb:Nat.beq k p=false:=by rw[zau];intro h;exact hk (qag.1 h)
   have e:qaj ((k,v)::r) p=qaj r p:=by simp only[qaj,hb,cond_false]
   rw[e]
   cases h:l.any (Nat.beq k) with
   | true=>simp only[cond_true];rw[show qaj ((k,v)::trimH l r) p=qaj (trimH l r) p by simp only[qaj,hb,cond_false]];exact ih
   | false=>simp only[cond_false];exact ih
theorem xbew{n p:Nat}:(List.range n).any (Nat.beq p)=Nat.blt p n:=by
 rw[zbd];simp only[zda,zb2,zb9];constructor
 ·rintro⟨x,hx,hb⟩;have:=qag.1 hb;omega
 ·intro h;exact⟨p,h,zbk p⟩
section
variable {P:Program} {E:Env} {β:Type} {w0:Base} {bl I0:Nat->Prop}
def asS(listed:Array Bool):Nat->Bool:=fun j=>listed.getD j false
def left(n:Nat)(listed:Array Bool):Nat:=((List.range n).filter fun j=> !asS listed j).length
theorem qhp{listed:Array Bool}{i:Nat}(h:i<listed.size):asS (listed.setIfInBounds i true)=fun j=>asS listed j|| Nat.beq j i:=by
 funext j;unfold asS;by_cases hj:i=j
 ·subst hj;simp[h,zbk]
 ·rw[getD_set_ne false hj];have:Nat.beq j i=false:=by rw[zau];intro e;exact hj (qag.1 e).symm
  simp[this]
theorem qvg{n:Nat}{listed:Array Bool}{i:Nat}(h:i<listed.size)(hn:i<n)(hf:asS listed i=false):left n (listed.setIfInBounds i true)<left n listed:=by
 unfold left;rw[qhp h];have key: ∀l:List Nat,((l.filter fun j=> !(asS listed j|| Nat.beq j i)).length<=(l.filter fun j=> !asS listed j).length)/\(i∈l->(l.filter fun j=> !(asS listed j|| Nat.beq j i)).length<(l.filter fun j=> !asS listed j).length):=fun l=>by
  induction l with
  | nil=>exact⟨zar _,fun h=>by cases h⟩
  | cons x r ih=>
   by_cases hx:x=i
   ·subst hx;have e1:((x::r).filter fun j=> !(asS listed j|| Nat.beq j x))=r.filter fun j=> !(asS listed j|| Nat.beq j x):=by rw[List.filter_cons];simp[zbk]
    have e2:((x::r).filter fun j=> !asS listed j)=x::r.filter fun j=> !asS listed j:=by rw[List.filter_cons];simp[hf]
    rw[e1,e2,zaf];exact⟨by have:=ih.1;omega,fun _=>by have:=ih.1;omega⟩
   ·have hb:Nat.beq x i=false:=by rw[zau];intro e;exact hx (qag.1 e)
    simp only[List.filter_cons,hb,Bool.or_false];cases asS listed x<;>simp only[zct,Bool.not_false,if_true,zan,if_false,zaf]
    ·refine⟨by have:=ih.1;omega,fun h=> ?_⟩;rcases zas.1 h with e|h
     ·exact absurd e.symm hx
     ·have:=ih.2 h;omega
    ·refine⟨ih.1,fun h=> ?_⟩;rcases zas.1 h with e|h
     ·exact absurd e.symm hx
     ·exact ih.2 h
 exact(key (List.range n)).2 (zb2.2 hn)
theorem qjj{ops:Array Oper}{listed:Array Bool}(hsz:listed.size=ops.size){i:Nat}(h:i∈Region.ready .any ops listed):i<ops.size/\∃o,ops[i]? =some o/\Due ops (asS listed) i o:=by obtain⟨h0,o,ho,hall⟩:=mem_ready.1 h;have hlt:i<ops.size:=(zco.1 ho).1;refine⟨hlt,o,ho, ?_,fun e he hb=>hall e (by simpa using he) hb⟩;unfold asS;rw[zaz] at h0 ⊢;rw[zbe (by omega)] at h0 ⊢;exact h0
theorem qmk{ops:Array Oper}{bef:Array Nat}(hok:OrderOk ops bef){listed:Array Bool}(hsz:listed.size=ops.size)(h:Region.ready .any ops listed=[]): ∀i,i<ops.size->asS listed i=true:=by
 intro i
 induction i using Nat.strongRecOn with
 | _ i ih=>
  intro hi;have ho:ops[i]? =some ops[i]:=zbe hi
  cases hc:asS listed i with
  | true=>rfl
  | false=>
   exfalso;have:i∈Region.ready .any ops listed:=mem_ready.2 ⟨by
    unfold asS at hc;rw[zaz] at hc ⊢;rw[zbe (by omega)] at hc ⊢;exact hc,_,ho,fun e he hb=>ih e.on (hok.back i _ ho e (by simpa using he) hb) (by have:=hok.back i _ ho e (by simpa using he) hb;omega)⟩
   rw[h] at this;cases this
theorem qp5{ops:Array Oper}{S:Nat->Bool}{i:Nat}{o:Oper}(hc:Closed ops S)(ho:ops[i]? =some o)(hd:Due ops S i o):Closed ops fun j=>S j|| Nat.beq j i:=by
 intro j oj hj hS e he hb;simp only[zbz] at hS ⊢;rcases hS with hS|hS
 ·exact .inl (hc j oj hj hS e he hb)
 ·obtain rfl:=qag.1 hS;rw[ho] at hj;simp only[zaa] at hj;subst hj;exact .inl (hd.2 e he hb)
theorem qo9{n:Nat}{listed:Array Bool}(h:left n listed=0): ∀i,i<n->asS listed i=true:=fun i hi=>by
 unfold left at h;have hz:=zcd.1 h
 cases hc:asS listed i with
 | true=>rfl
 | false=>
  have:i∈(List.range n).filter fun j=> !asS listed j:=zdo.2 ⟨zb2.2 hi,by simp[hc]⟩;rw[hz] at this;cases this
theorem qq4{ops:Array Oper}{listed:Array Bool}(hsz:listed.size=ops.size)(h: ∀i,i<ops.size->asS listed i=true):Region.ready .any ops listed=[]:=by
 cases hr:Region.ready .any ops listed with
 | nil=>rfl
 | cons i r=>
  obtain⟨h1,o,ho,hd⟩:=qjj hsz (i:=i) (by rw[hr];exact zbj);have:=hd.1;rw[h i h1] at this;cases this
theorem q8p{ops:Array Oper}{bef:Array Nat}{st0:SH}{rs:List Rec}{fps:List (Nat×List Nat×List Nat)}{Q:Exit->Act->World->Prop}(hE: ∀g,Sound P E.glob g (ctr E g))(hok:OrderOk ops bef)(hR:Runs0 P E ops bef st0 rs fps)(hlen:rs.length=ops.size)(hfree: ∀(i:Nat) (o:Oper),ops[i]? =some o->∀p∈makes E o,Free p st0.1 st0.2)(hQ: ∀a w,On E w0 bl I0 ⟨(stP st0 rs).1,(stP st0 rs).2⟩ a w->Q .normal a w): ∀(fuel:Nat) (listed:Array Bool) (a:Act) (w:World),
  listed.size=ops.size->left ops.size listed<=fuel->Closed ops (asS listed)->On E w0 bl I0 ⟨(qcs (asS listed) 0 rs st0).1,(qcs (asS listed) 0 rs st0).2⟩ a w->wpAny P .any ops Q fuel listed a w:=by
 have fin: ∀(listed:Array Bool) (a:Act) (w:World),(∀i,i<ops.size->asS listed i=true)->On E w0 bl I0 ⟨(qcs (asS listed) 0 rs st0).1,(qcs (asS listed) 0 rs st0).2⟩ a w->Q .normal a w:=fun listed a w hall hO=>by
  refine hQ a w ?_;obtain⟨Im,ρ,hI⟩:=hO;have hS: ∀(j:Nat) (r:Rec),rs[j]? =some r->asS listed (0+j)=true:=fun j r hj=>by have:=(zad.1 hj).1;rw[za1];exact hall j (by omega)
  refine⟨Im,ρ,hI.same (fun t=> ?_) fun p=> ?_⟩
  ·exact qjk rfl fun j r hj hne=>absurd (hS j r hj).symm hne
  ·exact qfk rfl fun j r hj hne=>absurd (hS j r hj).symm hne
 intro fuel
 induction fuel with
 | zero=>
  intro listed a w hsz hl hc hO;have hall:=qo9 (Nat.le_zero.1 hl);exact⟨qq4 hsz hall,fin listed a w hall hO⟩
 | succ fuel ih=>
  intro listed a w hsz hl hc hO;refine⟨fun hn=>fin listed a w (qmk hok hsz hn) hO,fun i hi=> ?_⟩;obtain⟨hlt,o,ho,hd⟩:=qjj hsz hi;have hrc:rs[i]? =some rs[i]:=zae (by omega);refine wpOp_mono (fun a' w' hO'=> ?_) (q2f hE hok hR (Nat.le_of_eq hlen) hfree hc ho hrc hd hO);refine ih _ a' w' (by simpa using hsz) ?_ ?_ ?_
  ·have:=qvg (n:=ops.size) (listed:=listed) (i:=i) (by omega) hlt hd.1;omega
  ·rw[qhp (by omega)];exact qp5 hc ho hd
  ·rw[qhp (by omega)];exact hO'
theorem qol{bits:Nat}: ∀ {l:List (Nat×List Nat×List Nat)},noWrites bits l=true->∀x∈l,bits.testBit x.1=true\/x.2.2=[]
 | [],_,x,hx=>by cases hx
 | (i,f)::r,h,x,hx=>by
  simp only[noWrites,zab,zbz] at h;rcases zas.1 hx with rfl|hx
  ·exact h.1.imp id fun h=>List.isEmpty_iff.1 h
  ·exact qol h.2 x hx
theorem qn9{b:Array Nat}{i:Nat}: ∀ {l:List Nat},qmv b i l=true->∀j∈l,j<=i\/(b.getD j 0).testBit i=true
 | [],_,j,hj=>by cases hj
 | x::r,h,j,hj=>by
  simp only[qmv,zab,zbz] at h;rcases zas.1 hj with rfl|hj
  ·exact h.1.imp (fun h=>zb5 h) id
  ·exact qn9 h.2 j hj
theorem xbev{ops:Array Oper}{bef:Array Nat}{st0:SH}{rs:List Rec}{fps:List (Nat×List Nat×List Nat)}{Q:Exit->Act->World->Prop}{k:Ex->St->Option β}{r:β}{o:Oper}{c:CV}{u:Upd}(hE: ∀g,Sound P E.glob g (ctr E g))(hok:OrderOk ops bef)(hP:Panics P E ops bef st0 k r rs fps o c u)(hfree: ∀(i:Nat) (o:Oper),ops[i]? =some o->∀p∈makes E o,Free p st0.1 st0.2)(hQ: ∀e a w,Lands E w0 bl I0 k r e a w->Q e a w): ∀(fuel:Nat) (listed:Array Bool) (a:Act) (w:World),
  listed.size=ops.size->left ops.size listed<=fuel->Closed ops (asS listed)->(∀j,asS listed j=true->j<rs.length)->On E w0 bl I0 ⟨(qcs (asS listed) 0 rs st0).1,(qcs (asS listed) 0 rs st0).2⟩ a w->wpAny P .any ops Q fuel listed a w:=by
 have hm:rs.length<ops.size:=(zco.1 hP.at').1;have hR:=hP.runs;intro fuel
 induction fuel with
 | zero=>
  intro listed a w hsz hl hc hS hO;have:=hS _ (qo9 (Nat.le_zero.1 hl) rs.length hm);omega
 | succ fuel ih=>
  intro listed a w hsz hl hc hS hO;refine⟨fun hn=> ?_,fun i hi=> ?_⟩
  ·have:=hS _ (qmk hok hsz hn rs.length hm);omega
  obtain⟨hlt,oi,ho,hd⟩:=qjj hsz hi;rcases zdg i rs.length with hil|hil|hil
  ·have hrc:rs[i]? =some rs[i]:=zae hil;refine wpOp_mono (fun a' w' hO'=> ?_) (q2f hE hok hR (Nat.le_of_lt hm) hfree hc ho hrc hd hO);refine ih _ a' w' (by simpa using hsz) ?_ ?_ ?_ ?_
   ·have:=qvg (n:=ops.size) (listed:=listed) (i:=i) (by omega) hlt hd.1;omega
   ·rw[qhp (by omega)];exact qp5 hc ho hd
   ·rw[qhp (by omega)];intro j hj;simp only[zbz] at hj;rcases hj with hj|hj
    ·exact hS j hj
    ·have:=qag.1 hj;omega
   ·rw[qhp (by omega)];exact hO'
  ·subst hil;have:=hP.at';rw[ho] at this;simp only[zaa] at this;subst this;obtain⟨Im,ρ,hI⟩:=hO;have hI:Inv E w0 bl I0 (qcs (asS listed) 0 rs st0).1 (qcs (asS listed) 0 rs st0).2 a w Im ρ:=hI;have hslot: ∀t∈looks ops oi,getV (qcs (asS listed) 0 rs st0).1 t=getV (stP st0 rs).1 t:=fun t ht=>by have:=qws hok hR (Nat.le_of_lt hm) hc ho hd ht;rwa [zb4] at this
   have efull:stP st0 rs=qcs (fun j=>Nat.blt j (0+rs.length)) 0 rs st0:=by have:=qu1 rs.length rs 0 st0;rw[zb4] at this;exact this
   have hun: ∀(j:Nat) (x:Rec),rs[j]? =some x->asS listed j≠Nat.blt j rs.length->∃o',ops[j]? =some o'/\(bef.getD rs.length 0).testBit j=false:=fun j x hj hne=>by obtain⟨o',ho'⟩:=xbm0 (Nat.le_of_lt hm) hj;exact⟨o',ho',(unordered hok hc ho ho' hd hne).2.1⟩
   have hheap: ∀p,p∈(touch E (stP st0 rs).1 (stP st0 rs).2 oi).1\/p∈(touch E (stP st0 rs).1 (stP st0 rs).2 oi).2->qaj (qcs (asS listed) 0 rs st0).2 p=qaj (stP st0 rs).2 p:=fun p hp=>by
    rw[efull];refine qfk rfl fun j x hj hne y hy hyp=> ?_;rw[za1,za1] at hne;obtain⟨o',ho',u2⟩:=hun j x hj hne;rcases(hR.step j o' x ho' hj).2 with hsk|hrj
    ·rw[hsk.u] at hy;cases hy
    ·rcases hrj.keys y hy with hk|hk
     ·rw[hyp] at hk;rcases qpt hP.apart _ (hR.fp j o' x ho' hj hrj) with hb|hb
      ·rw[u2] at hb;cases hb
      ·simp only[clash,zcm] at hb;rcases hp with hp|hp
       ·exact qco hb.1.1 hk hp
       ·exact qco hb.1.2 hk hp
     ·rw[hyp] at hk;rcases qjh hP.cleanF j o' (by simpa using ho') with h1|h1|h1
      ·have:=(zad.1 hj).1;omega
      ·rw[za1,u2] at h1;cases h1
      ·exact qco h1 hk (zak.2 hp)
   have hlow: ∀p,p<32->qaj (qcs (asS listed) 0 rs st0).2 p=qaj (stP st0 rs).2 p:=fun p hp=>by
    rw[efull];refine qfk rfl fun j x hj hne y hy hyp=> ?_;rw[za1,za1] at hne;obtain⟨o',ho',u2⟩:=hun j x hj hne;rcases(hR.step j o' x ho' hj).2 with hsk|hrj
    ·rw[hsk.u] at hy;cases hy
    ·rcases hrj.keys y hy with hk|hk
     ·rcases qol hP.noWrites _ (hR.fp j o' x ho' hj hrj) with hb|hb
      ·rw[u2] at hb;cases hb
      ·have hb:(touch E (stP st0 (rs.take j)).1 (stP st0 (rs.take j)).2 o').2=[]:=hb;rw[hb] at hk;cases hk
     ·have:=(hfree j o' ho' _ hk).big;omega
   unfold wpOp;rw[ho];simp only;have hw:Region.wanted oi (yielded ops a.tmps)=true:=by
    rcases hP.goes with hg|⟨j,want,d,h1,h2,h3⟩
    ·simp[Region.wanted,hg]
    ·have hb:a.tmps.getD d undef=.bool want:=by have:=hI.sl d;rw[hslot d (qjo h1 h2),h3] at this;exact this.bool
     have hy:=qr0 h2 hb;simp[Region.wanted,h1,hy]
   rw[if_pos hw];left;have hop:opK P E (qcs (asS listed) 0 rs st0).1 (qcs (asS listed) 0 rs st0).2 oi (fun _ _=>none) (fun c u=>some (c,u))=some (c,u):=by
    rw[q1l (s:=(stP st0 rs).1) (H:=(stP st0 rs).2) (fun x hx=> ?_) (fun p hp=>hheap p (.inl hp)) (fun p hp=>hheap p (.inr hp)),hP.run]
    cases x with
    | tmp t=>exact hslot t (xba0 hx)
    | _=>rfl
   refine qv0 hE hop hI (fun p hp=>xbdu hok hR (Nat.le_of_lt hm) hc ho hd.1 hp (hfree _ oi ho p hp)) (fun v u x w' Im' ρ' hk=>by cases hk) fun c' u' x w' Im' ρ' hk hI' hx=> ?_;simp only[zaa,zbb] at hk;obtain⟨h1,h2⟩:=hk;have h1:=h1.symm;have h2:=h2.symm;subst h1 h2;refine hQ _ _ _ ⟨.pan c,⟨[],qp7 (updH (stP st0 rs).2 u)⟩,Im',ρ',hP.out, ?_,x,rfl,hx⟩;have hI2:Inv E w0 bl I0 [] (qp7 (updH (qcs (asS listed) 0 rs st0).2 u)) a w' Im' ρ':=by
    refine hI'.map (f:=fun p=>p) (g:=fun c=>c) (Bad:=fun _=>False) (fun c=>rfl) (fun c=>.inr ⟨(qkm c).symm,fun _ _ h=>h⟩) (fun t=>.inl rfl) (fun q o' hq=> ?_) fun q _=> ?_
    ·refine⟨q,o',qf6 _ _ _ _ hq,rfl,rfl, ?_,fun _=>rfl⟩;obtain⟨row,lock⟩:=o';cases row<;>simp[qpe]
    ·cases hx:qaj (qp7 (updH (qcs (asS listed) 0 rs st0).2 u)) q with
     | none=>left;simp[shOf,hx]
     | some o'=>right;exact⟨by simp[shOf,hx,qf6 _ _ _ _ hx],rfl⟩
   refine hI2.same (fun t=>rfl) fun p=> ?_;unfold qp7;rw[qpr,qpr,xbew]
   cases hb:Nat.blt p 32 with
   | false=>rfl
   | true=>
    simp only[cond_true];exact qgs (hlow p (by simpa [zb9] using hb)).symm
  ·exfalso;rcases qn9 hP.after i (zb2.2 hlt) with h|h
   ·omega
   ·have:=hS _ (qk9 hok hc ho hP.at' hd h);omega
theorem qxl(hE: ∀g,Sound P E.glob g (ctr E g))(hm:P.follows .mixedOrders=true):q7y P E:=by
 intro β w0 bl I0 id ops Q k r σ a w hQ hdo hfr h hO;have hok:=qx3 hdo;have hfree: ∀(i:Nat) (o:Oper),ops[i]? =some o->∀p∈makes E o,Free p σ.slots σ.heap:=fun i o ho p hp=>by refine qgc hfr p (zb7.2 ⟨o, ?_,hp⟩);exact zb1.2 ⟨i,by simpa using ho⟩
 have hO':On E w0 bl I0 ⟨(qcs (asS (Array.replicate ops.size false)) 0 ([]:List Rec) (σ.slots,σ.heap)).1,(qcs (asS (Array.replicate ops.size false)) 0 ([]:List Rec) (σ.slots,σ.heap)).2⟩ a {w with drawn:=w.drawn+1}:=by obtain⟨Im,ρ,hI⟩:=hO;exact⟨Im,ρ,hI.world rfl rfl rfl rfl⟩
 have hnone: ∀j,asS (Array.replicate ops.size false) j=false:=fun j=>by unfold asS;rw[zaz,Array.getElem?_replicate];split<;>rfl
 have hO2: ∀rs:List Rec,On E w0 bl I0 ⟨(qcs (asS (Array.replicate ops.size false)) 0 rs (σ.slots,σ.heap)).1,(qcs (asS (Array.replicate ops.size false)) 0 rs (σ.slots,σ.heap)).2⟩ a {w with drawn:=w.drawn+1}:=fun rs=>by rw[qlj rs 0 _ _ fun j _=>hnone j];exact hO'
 have hleft:left ops.size (Array.replicate ops.size false)<=ops.size:=by unfold left;exact zby (List.length_filter_le _ _) (by simp)
 have hcl:Closed ops (asS (Array.replicate ops.size false)):=fun i o ho hS=>by rw[hnone] at hS;cases hS
 refine wp_region_any hm ?_;rcases qks (st0:=(σ.slots,σ.heap)) ops.toList σ [] [] h (fun m _=>by simp) (fun t=>rfl) rfl ⟨fun i o rc _ h=>by simp at h,fun i o rc _ h=>by simp at h,fun i j o o' rc rc' _ _ h=>by simp at h⟩ with⟨rs,fps,σ',hl,hR,hk,hs,hH⟩|⟨rs,fps,o,c,u,hP⟩
 ·refine q8p hE hok hR (by simpa using hl) hfree (fun a w hO=> ?_) ops.size _ a _ (by simp) hleft hcl (hO2 rs);obtain⟨Im,ρ,hI⟩:=hO;refine hQ _ _ _ ⟨.normal,σ',Im,ρ,hk,hI.same (fun t=>hs t) fun p=>by rw[hH],trivial⟩
 ·exact xbev hE hok hP hfree hQ ops.size _ a _ (by simp) hleft hcl (fun j hj=>by rw[hnone] at hj;cases hj) (hO2 rs)
end
theorem qtt{bef:Array Nat}{i n:Nat}(h:xbhj bef i n=true):(∀j,j<i->j<n->(bef.getD i 0).testBit j=true)/\∀j,i<j->j<n->(bef.getD j 0).testBit i=true:=by
 unfold xbhj at h;rw[zai] at h;refine⟨fun j hj hn=> ?_,fun j hj hn=> ?_⟩
 ·have:=h j (zb2.2 hn);rw[show Nat.beq j i=false from(zau.2 fun e=>by have:=qag.1 e;omega),show Nat.blt j i=true by rw[zb9];exact hj] at this;exact this
 ·have:=h j (zb2.2 hn);rw[show Nat.beq j i=false from(zau.2 fun e=>by have:=qag.1 e;omega),show Nat.blt j i=false from(zau.2 fun e=>by rw[zb9] at e;omega)] at this;exact this
section
variable {P:Program} {E:Env} {w0:Base} {bl I0:Nat->Prop}
theorem xbhi{ops:Array Oper}{Q:Exit->Act->World->Prop}(hl: ¬LetsOut Q){i:Nat}{K:Act->World->Prop}{a:Act}{w:World}(h:wpOp P ops Q i K a w):wpOpIn Fence.wide 0 P ops Q i K a w:=by
 unfold wpOp at h;unfold wpOpIn;split at h
 ·rename_i e;simp only[e];exact h
 ·rename_i o e;simp only[e];split at h
  ·rename_i hw;rw[if_pos hw];exact xbd8 (h.resolve_right fun e=>hl e.2)
  ·rename_i hw;rw[if_neg hw];exact⟨fun _ _=>trivial,h⟩
theorem qxb{ops:Array Oper}{Q:Exit->Act->World->Prop}{listed:Array Bool}(hsz:listed.size=ops.size)(h: ∀i,i<ops.size->asS listed i=true){a:Act}{w:World}(hQ:Q .normal a w): ∀fuel,wpAnyIn Fence.wide 0 P .any ops Q fuel listed a w
 | 0=>⟨qq4 hsz h,hQ⟩
 | fuel+1=>⟨fun _=>hQ,fun i hi=>by rw[qq4 hsz h] at hi;cases hi⟩
theorem xbax{n m:Nat}{listed:Array Bool}(hm:m<n)(h:asS listed m=false):0<left n listed:=by refine zdd fun e=> ?_;have:=qo9 e m hm;rw[h] at this;cases this
theorem xbl8{ops:Array Oper}{bef:Array Nat}(hok:OrderOk ops bef){m:Nat}{o:Oper}{Q:Exit->Act->World->Prop}(ho:ops[m]? =some o)(hn:ops.size=m+1){fuel:Nat}{listed:Array Bool}{a:Act}{w:World}(hsz:listed.size=ops.size)(hl:left ops.size listed<=fuel)(hin: ∀j,j<m->asS listed j=true)(hout:asS listed m=false)(h:wpListIn Fence.wide 0 P ops Q [o] a w):wpAnyIn Fence.wide 0 P .any ops Q fuel listed a w:=by
 have hp:=xbax (n:=ops.size) (by omega) hout;obtain⟨fuel,rfl⟩: ∃f,fuel=f+1:=⟨fuel - 1,by omega⟩;refine⟨fun hnil=> ?_,fun i hi=> ?_⟩
 ·have:=qmk hok hsz hnil m (by omega);rw[hout] at this;cases this
 ·obtain⟨hlt,o',ho',hd⟩:=qjj hsz hi;obtain rfl:i=m:=by
   rcases zbo i m with e|e
   ·have:=hd.1;rw[hin i e] at this;cases this
   ·omega
  have hall: ∀j,j<ops.size->asS (listed.setIfInBounds i true) j=true:=fun j hj=>by
   rw[qhp (by omega)];show(asS listed j|| j.beq i)=true;rcases zbo j i with e|e
   ·rw[hin j e];rfl
   ·rw[show j=i by omega];simp
  unfold wpListIn at h;unfold wpOpIn;simp only[ho];split at h
  ·rename_i hw;rw[if_pos hw];exact Oper.wpIn_mono (fun a w h=>qxb (by simpa using hsz) hall h fuel) h
  ·rename_i hw;rw[if_neg hw];exact⟨h.1,qxb (by simpa using hsz) hall h.2 fuel⟩
theorem xbb0{ops:Array Oper}{bef:Array Nat}{st0:SH}{rs:List Rec}{fps:List (Nat×List Nat×List Nat)}{Q:Exit->Act->World->Prop}(hE: ∀g,Sound P E.glob g (ctr E g))(hok:OrderOk ops bef)(hR:Runs0 P E ops bef st0 rs fps){m:Nat}(hlen:rs.length=m)(hn:m<ops.size)(hy:xbhj bef m ops.size=true)(hfree: ∀(i:Nat) (o:Oper),ops[i]? =some o->∀p∈makes E o,Free p st0.1 st0.2)(hl: ¬LetsOut Q)(hnext: ∀(fuel:Nat) (listed:Array Bool) (a:Act) (w:World),listed.size=ops.size->left ops.size listed<=fuel->Closed ops (asS listed)->(∀j,j<m->asS listed j=true)->(∀j,asS listed j=true->j<m)->On E w0 bl I0 ⟨(stP st0 rs).1,(stP st0 rs).2⟩ a w->wpAnyIn Fence.wide 0 P .any ops Q fuel listed a w):
  ∀(fuel:Nat) (listed:Array Bool) (a:Act) (w:World),listed.size=ops.size->left ops.size listed<=fuel->Closed ops (asS listed)->(∀j,asS listed j=true->j<m)->On E w0 bl I0 ⟨(qcs (asS listed) 0 rs st0).1,(qcs (asS listed) 0 rs st0).2⟩ a w->wpAnyIn Fence.wide 0 P .any ops Q fuel listed a w:=by
 obtain⟨hy1,hy2⟩:=qtt hy;obtain⟨om,hom⟩: ∃om,ops[m]? =some om:=⟨_,zbe hn⟩;have fin: ∀(fuel:Nat) (listed:Array Bool) (a:Act) (w:World),listed.size=ops.size->left ops.size listed<=fuel->Closed ops (asS listed)->(∀j,j<m->asS listed j=true)->(∀j,asS listed j=true->j<m)->On E w0 bl I0 ⟨(qcs (asS listed) 0 rs st0).1,(qcs (asS listed) 0 rs st0).2⟩ a w->wpAnyIn Fence.wide 0 P .any ops Q fuel listed a w:=fun fuel listed a w hsz hf hc h1 h2 hO=>by
  refine hnext fuel listed a w hsz hf hc h1 h2 ?_;obtain⟨Im,ρ,hI⟩:=hO;have hS: ∀(j:Nat) (r:Rec),rs[j]? =some r->asS listed (0+j)=true:=fun j r hj=>by have:=(zad.1 hj).1;rw[za1];exact h1 j (by omega)
  refine⟨Im,ρ,hI.same (fun t=> ?_) fun p=> ?_⟩
  ·exact qjk rfl fun j r hj hne=>absurd (hS j r hj).symm hne
  ·exact qfk rfl fun j r hj hne=>absurd (hS j r hj).symm hne
 intro fuel
 induction fuel with
 | zero=>
  intro listed a w hsz hf hc hS hO;have:=hS m (qo9 (Nat.le_zero.1 hf) m hn);omega
 | succ fuel ih=>
  intro listed a w hsz hf hc hS hO;by_cases hall: ∀j,j<m->asS listed j=true
  ·exact fin _ _ a w hsz hf hc hall hS hO
  ·refine⟨fun hnil=> ?_,fun i hi=> ?_⟩
   ·have:=hS m (qmk hok hsz hnil m hn);omega
   obtain⟨hlt,o,ho,hd⟩:=qjj hsz hi;rcases zdg i m with e|e|e
   ·have hrc:rs[i]? =some rs[i]:=zae (by omega);refine wpOpIn_mono (fun a' w' hO'=> ?_) (xbhi hl (q2f hE hok hR (by omega) hfree hc ho hrc hd hO));refine ih _ a' w' (by simpa using hsz) ?_ ?_ ?_ ?_
    ·have:=qvg (n:=ops.size) (listed:=listed) (i:=i) (by omega) hlt hd.1;omega
    ·rw[qhp (by omega)];exact qp5 hc ho hd
    ·rw[qhp (by omega)];intro j hj;simp only[zbz] at hj;rcases hj with hj|hj
     ·exact hS j hj
     ·have:=qag.1 hj;omega
    ·rw[qhp (by omega)];exact hO'
   ·subst e;refine absurd (fun j hj=> ?_) hall;obtain⟨oj,hoj⟩: ∃oj,ops[j]? =some oj:=⟨_,zbe (by omega)⟩;exact qk9 hok hc ho hoj hd (hy1 j hj (by omega))
   ·have:=hS m (qk9 hok hc ho hom hd (hy2 i e hlt));omega
end
theorem q6o{P:Program}{E:Env}{Z:Nat->Prop}{J:JT}{Jx:JX}(hE: ∀g,Sound P E.glob g (ctr E g))(hm:P.follows .mixedOrders=true)(hrg:E.rg=false)(hc:Caller P E.yn Z J Jx):q7z P E Z J Jx:=by
 intro id ops i σ k r rest B bl I0 a w hdo hfr h hh hg hO;unfold xbln at h;split at h
 ·rename_i o o2 hdrop;split at h
  ·rename_i d xs ts dd ho hdst hgd;replace h:=qaa h;obtain⟨hy,h⟩:=h;have hok:=qx3 hdo;have hsize:ops.size=i+2:=by have:=congrArg List.length hdrop;simp at this;omega
   have hoi:ops[i]? =some o:=by have:=congrArg (·[0]?) hdrop;simpa using this
   have hoj:ops[i+1]? =some o2:=by have:=congrArg (·[1]?) hdrop;simpa using this
   have hfree: ∀(i:Nat) (o:Oper),ops[i]? =some o->∀p∈makes E o,Free p σ.slots σ.heap:=fun i o ho p hp=>by refine qgc hfr p (zb7.2 ⟨o, ?_,hp⟩);exact zb1.2 ⟨i,by simpa using ho⟩
   have hO':On E B bl I0 σ a {w with drawn:=w.drawn+1}:=by obtain⟨Im,ρ,hI⟩:=hO;exact⟨Im,ρ,hI.world rfl rfl rfl rfl⟩
   have hnone: ∀j,asS (Array.replicate ops.size false) j=false:=fun j=>by unfold asS;rw[zaz,Array.getElem?_replicate];split<;>rfl
   refine wpIn_region_any hm ?_;have hlt:(ops.toList.take i).length=i:=by simp;omega
   rcases qks (st0:=(σ.slots,σ.heap)) (ops.toList.take i) σ [] [] h (fun m hm=>by rw[hlt] at hm;simp[zcy,hm]) (fun t=>rfl) rfl ⟨fun i o rc _ h=>by simp at h,fun i o rc _ h=>by simp at h,fun i j o o' rc rc' _ _ h=>by simp at h⟩ with⟨rs,fps,σ',hl,hR,hk,hs,hH⟩|⟨rs,fps,o',c,u,hP⟩
   ·rw[hlt,zbt,za1] at hl;refine xbb0 (w0:=B) (bl:=bl) (I0:=I0) hE hok hR hl (by omega) hy hfree xbar (fun fuel listed a1 w1 hsz hf hcl h1 h2 hO1=> ?_) ops.size _ a _ (by simp) ?_ (fun i o ho hS=>by rw[hnone] at hS;cases hS) (fun j hj=>by rw[hnone] at hj;cases hj) ?_
    ·have hout:asS listed i=false:=by
      cases hb:asS listed i with
      | false=>rfl
      | true=>have:=h2 i hb;omega
     have hp:=xbax (n:=ops.size) (by omega) hout;obtain⟨fuel,rfl⟩: ∃f,fuel=f+1:=⟨fuel - 1,by omega⟩;refine⟨fun hnil=> ?_,fun q hq=> ?_⟩
     ·have:=qmk hok hsz hnil i (by omega);rw[hout] at this;cases this
     ·obtain⟨hltq,oq,hoq,hd⟩:=qjj hsz hq;obtain rfl:q=i:=by
       rcases zdg q i with e|e|e
       ·have:=hd.1;rw[h1 q e] at this;cases this
       ·exact e
       ·have:=qk9 hok hcl hoq hoi hd ((qtt hy).2 q e hltq);rw[hout] at this;cases this
      unfold wpOpIn;simp only[hoi];rw[if_pos (by simp[Region.wanted,hgd])];obtain⟨Im,ρ,hI⟩:=hO1;have hI2:Inv E B bl I0 σ'.slots σ'.heap a1 w1 Im ρ:=hI.same (fun t=>hs t) fun p=>by rw[hH]
      refine q5i hrg hc hk hh hg hI2 ho hdst fun rr rest' B' bl' I0' σ2 a2 w2 h4 h5 h6 h7=> ?_;have hset:=qvg (n:=ops.size) (listed:=listed) (i:=q) (by omega) hltq hd.1;refine xbl8 hok (m:=q+1) hoj (by omega) (by simpa using hsz) (by omega) (fun j hj=> ?_) ?_ ?_
      ·rw[qhp (by omega)];show(asS listed j|| j.beq q)=true;rcases zbo j q with e|e
       ·rw[h1 j e];rfl
       ·rw[show j=q by omega];simp
      ·rw[qhp (by omega)];show(asS listed (q+1)|| (q+1).beq q)=false
       cases hb:asS listed (q+1) with
       | true=>have:=h2 _ hb;omega
       | false=>exact(zau.2 fun e=>by have:=qag.1 e;omega)
      ·have:=qfg (P:=P) (ops:=ops) (Q':=Lands E B' bl' I0' k rr) (Q:=qhu E Z J Jx k) (rest:=[]) qo8 (fun c a w hq=>qhu.of h5 h6 hq) (fun a w hq=>qhu.of h5 h6 hq) [o2] _ _ (qdb hE (fun _ _ _ h=>h) [o2] _ _ _ h4 h7);rwa [za9] at this
    ·unfold left;exact zby (List.length_filter_le _ _) (by simp)
    ·rw[qlj rs 0 _ _ fun j _=>hnone j];exact hO'
   ·have:=hP.out;cases this
  ·cases h
 ·cases h
theorem xbg1{P:Program}{glob:Nat->Option CV}{gf:FuncId}{fn:Func}{N:Nat}{as:List V}{obs:List Obj}{xs:List (List CV)}(Ey:Nat->Env)(hE: ∀l g,Sound P (Ey l).glob g (ctr (Ey l) g))(hm:P.follows .mixedOrders=true)(hgl: ∀l,(Ey l).glob=glob)(hrg: ∀l,(Ey l).rg=false)(hyn: ∀l,(Ey l).yn=l)(hf:P.funcs[gf]? =some fn)(hb:fn.body.isSome=true)(hlo: ∀l c,fn.body=some c->qbj P (Ey l) N c)(hnt: ∀l,(Ey l).nt=fn.ntmps)(hlen:as.length<fn.ntmps)(hres:fn.results= #[])(hS: ∀l, ∃out,qoa P (Ey l) N false fn (.cl (.fn (.yield l) [] [])::as) obs=some out/\Hands out (some xs)):xbu0 P glob gf as obs xs:=
 xbcq Ey hE (fun l=>qxl (hE l) hm) (fun l Z J Jx hc=>q6o (hE l) hm (hrg l) hc) hgl hrg hyn hf hb hlo hnt hlen hres hS
def FUEL:Nat:=1152921504606846976
def Cd.fst:Code->Code
 | .seq a _=>a
 | .cond _ a _=>a
 | .block _ b=>b
 | .loop b=>b
 | .rangeFunc _ _ a _=>a
 | c=>c
def Cd.snd:Code->Code
 | .seq _ b=>b
 | .cond _ _ b=>b
 | .rangeFunc _ _ _ b=>b
 | c=>c
theorem xbq1{P:Program}{E:Env}{N rid:Nat}{b:Code}(h:E.lp rid=none): ∀L,E.lp rid=some L->∀(σ:St) (k:Ex->St->Option Out) (r:Out),L σ k=some r->∃n,qxt n (qcx P E N b) (head E rid) σ k=some r:=fun L hL=>by rw[h] at hL;cases hL
theorem xbq2{P:Program}{E:Env}{N rid:Nat}{b:Code}{L:St->(Ex->St->Option Out)->Option Out}(h:E.lp rid=some L)(hk: ∀(σ:St) (k:Ex->St->Option Out) (r:Out),L σ k=some r->∃n,qxt n (qcx P E N b) (head E rid) σ k=some r):
  ∀L,E.lp rid=some L->∀(σ:St) (k:Ex->St->Option Out) (r:Out),L σ k=some r->∃n,qxt n (qcx P E N b) (head E rid) σ k=some r:=fun L' hL=>by
 rw[h] at hL;simp only[zaa] at hL;subst hL;exact hk
theorem xbsu{P:Program}{E:Env}{N rid nt:Nat}{ps:List Nat}{a b:Code}{L:St->List (List CV)->(Ex->St->Option Out)->Option Out}(h:E.rf rid=some L)(hk: ∀(σ:St) (xs:List (List CV)) (k:Ex->St->Option Out) (r:Out),L σ xs k=some r->qmj E nt rid ps (qcx P E N a) (qcx P E N b) xs σ k=some r):
  ∀L,E.rf rid=some L->∀(σ:St) (xs:List (List CV)) (k:Ex->St->Option Out) (r:Out),L σ xs k=some r->qmj E nt rid ps (qcx P E N a) (qcx P E N b) xs σ k=some r:=fun L' hL=>by
 rw[h] at hL;simp only[zaa] at hL;subst hL;exact hk
theorem qqh{P:Program}{E:Env}{N rid:Nat}{b:Code}(h:E.jn rid=none): ∀L,E.jn rid=some L->∀(σ:St) (k:Ex->St->Option Out) (r:Out),L σ k=some r->qcx P E N b σ (kt E rid k)=some r:=fun L hL=>by rw[h] at hL;cases hL
theorem xbqt{P:Program}{E:Env}{N rid:Nat}{b:Code}{L:St->(Ex->St->Option Out)->Option Out}(h:E.jn rid=some L)(hk: ∀(σ:St) (k:Ex->St->Option Out) (r:Out),L σ k=some r->qcx P E N b σ (kt E rid k)=some r):
  ∀L,E.jn rid=some L->∀(σ:St) (k:Ex->St->Option Out) (r:Out),L σ k=some r->qcx P E N b σ (kt E rid k)=some r:=fun L' hL=>by
 rw[h] at hL;simp only[zaa] at hL;subst hL;exact hk
def q7v(E:Env):Code->Bool
 | .seq a b=>q7v E a&&(q7v E b&&(E.jn (qae b)).isNone)
 | .cond _ a b=>q7v E a&&(q7v E b&&(E.jn (qae b)).isNone)
 | .block _ b=>q7v E b
 | .loop b=>q7v E b&&(E.lp (qae b)).isNone
 | .rangeFunc .. =>false
 | _=>true
theorem q1j{P:Program}{E:Env}{N:Nat}(c:Code)(h:q7v E c=true):qbj P E N c:=by
 induction c with
 | seq a b ha hb=>simp only[q7v,zab] at h;exact⟨ha h.1,hb h.2.1,qqh (Option.isNone_iff_eq_none.1 h.2.2)⟩
 | cond x a b ha hb=>simp only[q7v,zab] at h;exact⟨ha h.1,hb h.2.1,qqh (Option.isNone_iff_eq_none.1 h.2.2)⟩
 | block i b hb=>exact hb h
 | loop b hb=>simp only[q7v,zab] at h;exact⟨hb h.1,xbq1 (Option.isNone_iff_eq_none.1 h.2)⟩
 | rangeFunc _ _ _ _ _ _=>cases h
 | _=>trivial
def qdl{α:Type}(s:α->α)(z:α):Nat->α
 | 0=>z
 | n+1=>s (qdl s z n)
theorem qqf{α:Type}{F:Nat->α}{s:α->α}{z:α}{Q:α->Prop}(h0:F 0=z)(hs: ∀n,F (n+1)=s (F n))(h:Q (qdl s z FUEL)):Q (F FUEL):=by
 have e: ∀n,F n=qdl s z n:=fun n=>by
  induction n with
  | zero=>exact h0
  | succ n ih=>rw[hs,ih];rfl
 rw[e];exact h
def LpOk(P:Program)(E:Env)(N:Nat)(b:Code)(rid:Nat)(L:St->(Ex->St->Option Out)->Option Out):Prop:=
 ∀(σ:St) (k:Ex->St->Option Out) (r:Out),L σ k=some r->∃n,qxt n (qcx P E N b) (head E rid) σ k=some r
def JnOk(P:Program)(E:Env)(N:Nat)(b:Code)(rid:Nat)(L:St->(Ex->St->Option Out)->Option Out):Prop:=
 ∀(σ:St) (k:Ex->St->Option Out) (r:Out),L σ k=some r->qcx P E N b σ (kt E rid k)=some r
def getK{α:Type}(l:List α)(i:Int)(k:α->Option Out):Option Out:=idxK i l.length fun j=>Option.bind l[j]? k
def rmK(n e:Nat)(x:Option Out):Option Out:=cond (Nat.ble (n*e) LIMN) (cond (Nat.ble n LIMN) x none) none
theorem qa1{α:Type}{l:List α}{i:Int}{k:α->Option Out}{r:Option Out}{x:α}(h:0<=i)(hx:l[i.toNat]? =some x)(hk:k x=r):getK l i k=r:=by have hl:=(zad.1 hx).1;unfold getK idxK;rw[decide_eq_true h,decide_eq_true (show i<(l.length:Int) by omega),cond_true,cond_true];show Option.bind l[i.toNat]? k=r;rw[hx];exact hk
theorem qa6{n:Int}{len:Nat}{k:Nat->Option Out}{r:Option Out}(h:0<=n)(h2:n<(len:Int))(hk:k n.toNat=r):idxK n len k=r:=by unfold idxK;rw[decide_eq_true h,decide_eq_true h2];exact hk
theorem qmm{n e:Nat}{x r:Option Out}(h:n*e<=140737488355328)(h2:n<=140737488355328)(hk:x=r):rmK n e x=r:=by unfold rmK LIMN;rw[zcr h,zcr h2];exact hk
theorem qew{n:Nat}{x y r:Option Out}(h:n<=140737488355328)(hk:x=r):cond (Nat.ble n LIMN) x y=r:=by unfold LIMN;rw[zcr h];exact hk
theorem qen(a b:Nat):(Nat.beq a b=true)=(a=b):=propext qag
section
variable {P:Program} {glob:Nat->Option CV}
theorem qbv{g:FuncId}:Sound P glob g (fun as obs=>cond ((fun _ _=>true:List V->List Obj->Bool) as obs) ((fun _ _=>Tree.fail:List V->List Obj->Tree) as obs).eval none):=by intro as obs out w Im ρ bl vs h;cases h
theorem qai{g n:FuncId}{p p':List V->List Obj->Bool}{S S':List V->List Obj->Tree}(h:Sound P glob n (fun as obs=>cond (p as obs) (S as obs).eval none))(h':Sound P glob g (fun as obs=>cond (p' as obs) (S' as obs).eval none)):
  Sound P glob g (fun as obs=>cond ((cond (Nat.beq g n) p p') as obs) ((cond (Nat.beq g n) S S') as obs).eval none):=by
 cases hb:Nat.beq g n with
 | true=>obtain rfl:=qag.1 hb;exact h
 | false=>exact h'
theorem qyu{E:Env}(h:E.sq=fun _ _ _=>none):qfr P E:=fun gf as objs xs _ h'=>by rw[h] at h';cases h'
theorem qbq{E:Env}{g:FuncId}{fn:Func}{keep:Bool}{N:Nat}{p:List V->List Obj->Bool}{S:List V->List Obj->Tree}(hm:P.follows .mixedOrders=true)(hE: ∀g,Sound P E.glob g (ctr E g))(hf:P.funcs[g]? =some fn)(hn:(fn.name== "runtime.NumGoroutine")=false)(hb:fn.body.isSome=true)(hlo: ∀c,fn.body=some c->qbj P E N c)(hnt:E.nt=fn.ntmps)(hS: ∀as obs out,p as obs=true->(S as obs).eval=some out->as.length<=fn.ntmps/\qoa P E N keep fn as obs=some out)(hsq:qfr P E:=by exact qyu rfl)(hyl:E.yl=(fun _=>none):=by rfl):Sound P E.glob g (fun as obs=>cond (p as obs) (S as obs).eval none):=
 q8z hE hsq (qxl hE hm) hf hn hb hyl hlo hnt fun as obs out h=>by obtain⟨h1,h2⟩:=qaa h;exact hS as obs out h1 h2
end
open IntWalk (i64_in u8_in u32_in u64_in i64_quo u8_quo rem_in)
theorem qac{P:Prop}[Decidable P]{a b r:Option Out}(h1:P->a=r)(h2: ¬P->b=r):cond (decide P) a b=r:=by
 by_cases h:P
 ·rw[decide_eq_true h];exact h1 h
 ·rw[decide_eq_false h];exact h2 h
theorem qa2{P:Prop}[Decidable P]{a b r:Option Out}(h1: ¬P->a=r)(h2:P->b=r):cond (!decide P) a b=r:=by
 by_cases h:P
 ·rw[decide_eq_true h];exact h2 h
 ·rw[decide_eq_false h];exact h1 h
theorem qas{P:Prop}[Decidable P]{a b r:Option Out}(h:P)(ha:a=r):cond (decide P) a b=r:=by rw[decide_eq_true h];exact ha
theorem qdt{P:Prop}[Decidable P]{a b r:Option Out}(h: ¬P)(hb:b=r):cond (decide P) a b=r:=by rw[decide_eq_false h];exact hb
theorem qmy{P:Prop}[Decidable P]{a b r:Option Out}(h: ¬P)(ha:a=r):cond (!decide P) a b=r:=by rw[decide_eq_false h];exact ha
theorem qkq{P:Prop}[Decidable P]{a b r:Option Out}(h:P)(hb:b=r):cond (!decide P) a b=r:=by rw[decide_eq_true h];exact hb
theorem qf7{c:Bool}{a b r:Option Out}(h1:c=true->a=r)(h2:c=false->b=r):cond c a b=r:=by cases c<;>simp_all
theorem qak{c:Bool}{a b r:Option Out}(h:c=true)(ha:a=r):cond c a b=r:=by rw[h];exact ha
theorem q2v{c:Bool}{a b r:Option Out}(h:c=false)(hb:b=r):cond c a b=r:=by rw[h];exact hb
theorem qkn{k:IntKind}{a b:Int}(h:a=b):some (Out.ret [.cl (.int k a)] [])=some (Out.ret [.cl (.int k b)] []):=by rw[h]
theorem qap{a b:Bool}(h:a=b):some (Out.ret [.cl (.bool a)] [])=some (Out.ret [.cl (.bool b)] []):=by rw[h]
theorem xblg(s:ByteArray)(n:Int): ∃m:Nat,m<256/\bget s n=m:=by
 unfold bget
 cases h:s.data.toList[n.toNat]? with
 | none=>exact⟨0,by omega,rfl⟩
 | some b=>exact⟨b.toNat,b.toNat_lt,rfl⟩
theorem qh0(s:ByteArray)(n:Int):0<=bget s n/\bget s n<=255:=by obtain⟨m,h1,h2⟩:=xblg s n;omega
theorem qcu(s:ByteArray){a b:Nat}{i:Int}(h0:0<=i)(hb:(a:Int)+i<b)(hs:b<=s.size):bget (s.extract a b) i=bget s (a+i):=by unfold bget;rw[ByteArray.data_extract,Array.toList_extract,List.extract_eq_take_drop,zbm (by omega),zbv];rw[show((a:Int)+i).toNat=a+i.toNat by omega]
theorem qet(s:ByteArray):(bytesOf s).length=s.size:=by unfold bytesOf;rw[zam,Array.length_toList,ByteArray.size_data]
theorem q6f(s:ByteArray){i:Nat}(h:i<s.size):(bytesOf s)[i]? =some (bget s i):=by
 unfold bytesOf bget;have h':i<s.data.toList.length:=by rw[Array.length_toList,ByteArray.size_data];exact h
 rw[zaj,show((i:Int)).toNat=i from rfl,zae h'];rfl
theorem qdh(s:ByteArray){i:Nat}(h:i<s.size):(bytesOf s).drop i=bget s i::(bytesOf s).drop (i+1):=by
 have h':i<(bytesOf s).length:=by rw[qet];exact h
 rw[zbf h'];have:=q6f s h;rw[zae h'] at this;simp only[zaa] at this;rw[this]
theorem xbqr(n:Nat):((n:Int)).toNat=n:=rfl
open Go.ChangeShapes Go.WideShapes Go.ChangeAt Go.RowKit
theorem q7s{n:Int}(h:(Lit.int .i64 n).wf=true): -9223372036854775808<=n/\n<=9223372036854775807:=by simp only[Lit.wf,zab,decide_eq_true_eq] at h;exact h
theorem xbd4{n:Int}(h:(Lit.int .u8 n).wf=true):0<=n/\n<=255:=by simp only[Lit.wf,zab,decide_eq_true_eq] at h;exact h
theorem qtr{n:Int}(h:(Lit.int .u32 n).wf=true):0<=n/\n<=4294967295:=by simp only[Lit.wf,zab,decide_eq_true_eq] at h;exact h
def Stays(W W':World):Prop:=W.keptBut W' (fun _=>False)/\∀a:Addr,a.block<W.heap.size->W'.frozen? a=W.frozen? a
theorem xbqx{W W':World}(h:Fr W (fun _=>False) W'):Stays W W':=by
 refine⟨⟨h.os,h.output,fun i hi=> ?_⟩,fun a ha=>qm4 (h.block _ ha fun f=>f)⟩;rw[h.block i hi fun f=>f]
 cases hw:W.heap[i]? with
 | none=>rfl
 | some o=>cases o<;>first|exact⟨rfl,rfl,rfl,fun _ _=>rfl⟩|exact .inr ⟨rfl,rfl⟩|rfl
section
variable {H:Type} {enc:TypeId×Value->H} {P:Program}
theorem xbl9{f:Func}{s:ChangeSpec}{apart fresh handsOn again:Bool}{W W':World}{args:Array Value}{v:Value}{ds gs:List (DataW H)}{before pa pv:List MemPlace}(hW:DataW.Whole enc P f.params.toList s.vars apart W args.toList ds gs before)(hres: ∀(b:Nat) (sp:Nat->Bool) (hd:Bool),DataW.TrodAll enc P W' b sp hd f.resultTypes.toList (v.resultList f.resultTypes.size) (s.fn H (ds++gs)).results [])(hargs: ∀sp:Nat->Bool,(∀p∈before,sp p.block=true)->DataW.TrodAll enc P W' 0 sp true f.params.toList args.toList (s.fn H (ds++gs)).args pa)(hvars: ∀sp:Nat->Bool,(∀p∈before,sp p.block=true)->DataW.TrodVars enc P W' sp s.vars (s.fn H (ds++gs)).vars pv)(hps:before=pa++pv)(hL:Stays W W')(hok: ∀(j:Nat) (t:TypeId) (r:Value),f.resultTypes[j]? =some t->(v.resultList f.resultTypes.size)[j]? =some r->Value.okWide P W' .any 0 t r):
  s.post enc P f apart fresh handsOn again W args v W':=by
 have hlt:=hW.lt;have old: ∀p∈before,(fun b=>decide (b<W.heap.size)) p.block=true:=fun p hp=>decide_eq_true (hlt p hp);refine⟨ds,gs,before,[],pa,pv,hW,hres _ _ _,hargs _ old,hvars _ old,World.keptBut_mono (fun p f=>f.elim) hL.1,fun _=> ?_⟩;obtain⟨_,_,_,_,_,hz,hn⟩:=hW;refine⟨hok,_,_,([]++pa)++pv,⟨[]++pa,pv,trodAll_append (hargs _ (fun _ _=>rfl)) (hres _ _ _),hvars _ (fun _ _=>rfl),rfl,fun b off hp=> ?_,fun ha=> ?_⟩,fun p hp _=> ?_⟩
 ·rw[za0, <- hps] at hp;rw[hL.2 _ (hlt _ hp)];exact hz b off hp
 ·rw[za0, <- hps];exact hn ha
 ·rw[za0, <- hps] at hp;exact hp
end
abbrev Ct:=List V->List Obj->Option (Bool×Tree)
def kP(K:Ct)(xs:List V)(obs:List Obj):Bool:=match K xs obs with|some x=>x.1|none=>false
def kT(K:Ct)(xs:List V)(obs:List Obj):Tree:=match K xs obs with|some x=>x.2|none=>.fail
def ofS(p:List V->List Obj->Bool)(S:List V->List Obj->Tree):Ct:=fun xs obs=>some (p xs obs,S xs obs)
def tb(n:Nat)(K:Ct)(T:Nat->Ct):Nat->Ct:=fun g=>cond (Nat.beq g n) K (T g)
def t0:Nat->Ct:=fun _ _ _=>none
def lk{α:Type}(d:α):List (Nat×α)->Nat->α
 | [],_=>d
 | x::r,g=>cond (Nat.beq g x.1) x.2 (lk d r g)
def mkE(T:Nat->Ct)(gl:Nat->Option CV)(n:Nat):Env:= {orc:=fun g=>kT (T g),pre:=fun g=>kP (T g),glob:=gl,nt:=n}
def eqL:List Nat->List Nat->Bool
 | [],[]=>true
 | x::a,y::b=>Nat.beq x y&&eqL a b
 | _,_=>false
theorem qa3: ∀ {a b:List Nat},eqL a b=true->a=b
 | [],[],_=>rfl
 | [],_::_,h=>nomatch h
 | _::_,[],h=>nomatch h
 | x::a,y::b,h=>by simp only[eqL,zab] at h;rw[qag.1 h.1,qa3 h.2]
section
variable {P:Program} {gl:Nat->Option CV}
abbrev OKc(P:Program)(gl:Nat->Option CV)(n:Nat)(K:Ct):Prop:=Sound P gl n (fun xs obs=>cond (kP K xs obs) (kT K xs obs).eval none)
def xbej(P:Program)(gl:Nat->Option CV)(T:Nat->Ct):Prop:= ∀g,OKc P gl g (T g)
theorem tab0:xbej P gl t0:=by intro g xs obs out w Im ρ bl vs h;cases h
theorem tabC{n:Nat}{K:Ct}{T:Nat->Ct}(h:OKc P gl n K)(h':xbej P gl T):xbej P gl (tb n K T):=by
 intro g;unfold tb
 cases hb:Nat.beq g n with
 | true=>obtain rfl:=qag.1 hb;exact h
 | false=>exact h' g
theorem rs{E:Env}{g N:Nat}{fn:Func}{keep:Bool}{K:Ct}{T:Nat->Ct}(hT:xbej P E.glob T)(hm:P.follows .mixedOrders=true)(hf:P.funcs[g]? =some fn)(hlo: ∀c,fn.body=some c->qbj P E N c)(hS: ∀xs obs y,K xs obs=some y->y.1=true->Nat.ble xs.length fn.ntmps=true/\qoa P E N keep fn xs obs=y.2.eval)(hn:(fn.name== "runtime.NumGoroutine")=false:=by rfl)(hb:fn.body.isSome=true:=by rfl)(hc: ∀g,ctr E g=fun xs obs=>cond (kP (T g) xs obs) (kT (T g) xs obs).eval none:=by exact fun _=>rfl)(hnt:E.nt=fn.ntmps:=by rfl)(hsq:qfr P E:=by exact qyu rfl)(hyl:E.yl=(fun _=>none):=by rfl):OKc P E.glob g K:=
 qbq hm (fun g=>by rw[hc];exact hT g) hf hn hb hlo hnt (fun xs obs out h1 h2=>by
  unfold kP at h1;unfold kT at h2
  cases hK:K xs obs with
  | none=>rw[hK] at h1;cases h1
  | some y=>
   rw[hK] at h1 h2;have:=hS xs obs y hK h1;exact⟨zb5 this.1,this.2.trans h2⟩) hsq hyl
theorem rs0{E:Env}{g N:Nat}{fn:Func}{keep:Bool}{K:Ct}{T:Nat->Ct}(hT:xbej P E.glob T)(hm:P.follows .mixedOrders=true)(hf:P.funcs[g]? =some fn)(hlo:q7v E (fn.body.getD .skip)=true)(hS: ∀xs obs y,K xs obs=some y->y.1=true->Nat.ble xs.length fn.ntmps=true/\qoa P E N keep fn xs obs=y.2.eval)(hn:(fn.name== "runtime.NumGoroutine")=false:=by rfl)(hb:fn.body.isSome=true:=by rfl)(hc: ∀g,ctr E g=fun xs obs=>cond (kP (T g) xs obs) (kT (T g) xs obs).eval none:=by exact fun _=>rfl)(hnt:E.nt=fn.ntmps:=by rfl)(hsq:qfr P E:=by exact qyu rfl)(hyl:E.yl=(fun _=>none):=by rfl):OKc P E.glob g K:=
 rs hT hm hf (fun c h=>q1j c (by rw[h] at hlo;exact hlo)) hS hn hb hc hnt hsq hyl
end
def lsL(E:Env):Code->List (Bool×Nat×Code)
 | .seq a b=>lsL E a++(lsL E b++cond (E.jn (qae b)).isNone [] [(false,qae b,b)])
 | .cond _ a b=>lsL E a++(lsL E b++cond (E.jn (qae b)).isNone [] [(false,qae b,b)])
 | .block _ b=>lsL E b
 | .loop b=>lsL E b++cond (E.lp (qae b)).isNone [] [(true,qae b,b)]
 | _=>[]
def noR:Code->Bool
 | .seq a b=>noR a&&noR b
 | .cond _ a b=>noR a&&noR b
 | .block _ b=>noR b
 | .loop b=>noR b
 | .rangeFunc .. =>false
 | _=>true
def bd(fn:Func):Code:=fn.body.getD .skip
def idsL(E:Env)(fn:Func):Bool×List (Bool×Nat):=(noR (bd fn),(lsL E (bd fn)).map fun x=>(x.1,x.2.1))
def nthc(E:Env)(fn:Func)(i:Nat):Code:=((lsL E (bd fn)).getD i (true,0,.skip)).2.2
section
variable {P:Program} {E:Env} {N:Nat}
def okX(P:Program)(E:Env)(N:Nat)(x:Bool×Nat)(c:Code):Prop:=match x.1 with
 | true=> ∃L,E.lp x.2=some L/\LpOk P E N c x.2 L
 | false=> ∃L,E.jn x.2=some L/\JnOk P E N c x.2 L
def okl(P:Program)(E:Env)(N:Nat)(fn:Func):List (Bool×Nat)->Nat->Prop
 | [],_=>True
 | x::r,i=>okX P E N x (nthc E fn i)/\okl P E N fn r (i+1)
theorem xbji{fn:Func}: ∀(l:List (Bool×Nat×Code)) (i:Nat),(∀k x,l[k]? =some x->(lsL E (bd fn))[i+k]? =some x)->okl P E N fn (l.map fun x=>(x.1,x.2.1)) i->∀x∈l,okX P E N (x.1,x.2.1) x.2.2
 | [],_,_,_,x,hx=>by simp at hx
 | y::r,i,h,ho,x,hx=>by
  rcases zas.1 hx with rfl|hx
  ·have h0:=h 0 x rfl;have e:nthc E fn i=x.2.2:=by unfold nthc;rw[zbl,show(lsL E (bd fn))[i]? =some x from h0];rfl
   have:=ho.1;rw[e] at this;exact this
  ·exact xbji r (i+1) (fun k x hk=>by have:=h (k+1) x hk;rwa [show i+(k+1)=i+1+k by omega] at this) ho.2 x hx
theorem xbze{b:Code}(h: ∀x∈(cond (E.jn (qae b)).isNone [] [(false,qae b,b)]:List (Bool×Nat×Code)),okX P E N (x.1,x.2.1) x.2.2): ∀L,E.jn (qae b)=some L->∀(σ:St) (k:Ex->St->Option Out) (r:Out),L σ k=some r->qcx P E N b σ (kt E (qae b) k)=some r:=by
 cases hj:E.jn (qae b) with
 | none=>intro L hL;cases hL
 | some L=>
  rw[hj] at h;obtain⟨L',h1,h2⟩:=h _ (zci.2 rfl);rw[<- hj];exact xbqt h1 h2
theorem xbmd: ∀(c:Code),noR c=true->(∀x∈lsL E c,okX P E N (x.1,x.2.1) x.2.2)->qbj P E N c:=fun c hn h=>by
 induction c with
 | seq a b ha hb=>
  simp only[noR,zab] at hn;simp only[lsL,zak] at h;exact⟨ha hn.1 fun x hx=>h x (.inl hx),hb hn.2 fun x hx=>h x (.inr (.inl hx)),xbze fun x hx=>h x (.inr (.inr hx))⟩
 | cond y a b ha hb=>
  simp only[noR,zab] at hn;simp only[lsL,zak] at h;exact⟨ha hn.1 fun x hx=>h x (.inl hx),hb hn.2 fun x hx=>h x (.inr (.inl hx)),xbze fun x hx=>h x (.inr (.inr hx))⟩
 | block i b hb=>exact hb hn h
 | loop b hb=>
  simp only[lsL,zak] at h;refine⟨hb hn fun x hx=>h x (.inl hx), ?_⟩
  cases hj:E.lp (qae b) with
  | none=>intro L hL;cases hL
  | some L=>
   rw[hj] at h;obtain⟨L',h1,h2⟩:=h _ (.inr (zci.2 rfl));have:=xbq2 h1 h2;rwa [hj] at this
 | rangeFunc _ _ _ _ _ _=>cases hn
 | _=>trivial
theorem lsB{fn:Func}{ids:List (Bool×Nat)}(h:idsL E fn=(true,ids))(ok:okl P E N fn ids 0): ∀c,fn.body=some c->qbj P E N c:=fun c hc=>by
 have hb:bd fn=c:=by unfold bd;rw[hc];rfl
 obtain⟨h1,h2⟩:=Prod.mk.inj h;rw[<- h2] at ok;have:=xbmd (bd fn) h1 (xbji _ 0 (fun k x hk=>by rwa [za1]) ok);rwa [hb] at this
end
theorem tr{a:Bool}{x y z:Option Out}(h:y=z)(e:x=y:=by kernel_rfl)(l:a=true:=by rfl):a=true/\x=z:=⟨l,e.trans h⟩
section
variable {P:Program} {g:Nat} {fn:Func} {T:Nat->Ct}
theorem tcT(E:Env)(K:Ct)(hT:P.follows .mixedOrders=true->xbej P E.glob T)(hf:P.funcs[g]? =some fn)(ids:List (Bool×Nat))(ok:okl P E 40 fn ids 0)(hS: ∀xs obs y,K xs obs=some y->y.1=true->Nat.ble xs.length fn.ntmps=true/\qoa P E 40 false fn xs obs=y.2.eval)(h:idsL E fn=(true,ids):=by kernel_rfl)(hn:(fn.name== "runtime.NumGoroutine")=false:=by rfl)(hb:fn.body.isSome=true:=by rfl)(hc: ∀g,ctr E g=fun xs obs=>cond (kP (T g) xs obs) (kT (T g) xs obs).eval none:=by exact fun _=>rfl)(hnt:E.nt=fn.ntmps:=by rfl)(hsq:qfr P E:=by exact qyu rfl)(hyl:E.yl=(fun _=>none):=by rfl)(hm:P.follows .mixedOrders=true):xbej P E.glob (tb g K T):=
 tabC (rs (hT hm) hm hf (lsB h ok) hS hn hb hc hnt hsq hyl) (hT hm)
theorem tc0(E:Env)(K:Ct)(hT:P.follows .mixedOrders=true->xbej P E.glob T)(hf:P.funcs[g]? =some fn)(hS: ∀xs obs y,K xs obs=some y->y.1=true->Nat.ble xs.length fn.ntmps=true/\qoa P E 40 false fn xs obs=y.2.eval)(hlo:q7v E (fn.body.getD .skip)=true:=by kernel_rfl)(hn:(fn.name== "runtime.NumGoroutine")=false:=by rfl)(hb:fn.body.isSome=true:=by rfl)(hc: ∀g,ctr E g=fun xs obs=>cond (kP (T g) xs obs) (kT (T g) xs obs).eval none:=by exact fun _=>rfl)(hnt:E.nt=fn.ntmps:=by rfl)(hsq:qfr P E:=by exact qyu rfl)(hyl:E.yl=(fun _=>none):=by rfl)(hm:P.follows .mixedOrders=true):xbej P E.glob (tb g K T):=
 tabC (rs0 (hT hm) hm hf hlo hS hn hb hc hnt hsq hyl) (hT hm)
end
noncomputable def rF(P:Program)(E:Env)(fn:Func)(i rid:Nat)(σ:St)(k:Ex->St->Option Out)(n:Nat):Option Out:=qxt n (qcx P E 40 (nthc E fn i)) (head E rid) σ k
def LpT(P:Program)(E:Env)(fn:Func)(i rid:Nat)(L:St->(Ex->St->Option Out)->Option Out):Prop:= ∀(σ:St) (k:Ex->St->Option Out) (r:Out),L σ k=some r->∃n,rF P E fn i rid σ k n=some r
theorem eqF{α:Type}{F G:Nat->α}{s:α->α}(hs: ∀n,F (n+1)=s (F n))(hG: ∀n,G (n+1)=s (G n))(h0:F 0=G 0):F=G:=funext fun n=>by
 induction n with
 | zero=>exact h0
 | succ n ih=>rw[hs,ih,hG]
theorem it1{a0:Type}{s:(a0->Option Out)->a0->Option Out}{z:a0->Option Out}{x0:a0}{r:Out}(j:qdl s z FUEL x0=some r)(F:Nat->a0->Option Out)(hs: ∀n,F (n+1)=s (F n))(h0:F 0=z): ∃n,F n x0=some r:=⟨FUEL,qqf (F:=F) (Q:=fun f=>f x0=some r) h0 hs j⟩
theorem it3{a0 a1 a2:Type}{s:(a0->a1->a2->Option Out)->a0->a1->a2->Option Out}{z:a0->a1->a2->Option Out}{x0:a0}{x1:a1}{x2:a2}{r:Out}(j:qdl s z FUEL x0 x1 x2=some r)(F:Nat->a0->a1->a2->Option Out)(hs: ∀n,F (n+1)=s (F n))(h0:F 0=z): ∃n,F n x0 x1 x2=some r:=⟨FUEL,qqf (F:=F) (Q:=fun f=>f x0 x1 x2=some r) h0 hs j⟩
theorem it4{a0 a1 a2 a3:Type}{s:(a0->a1->a2->a3->Option Out)->a0->a1->a2->a3->Option Out}{z:a0->a1->a2->a3->Option Out}{x0:a0}{x1:a1}{x2:a2}{x3:a3}{r:Out}(j:qdl s z FUEL x0 x1 x2 x3=some r)(F:Nat->a0->a1->a2->a3->Option Out)(hs: ∀n,F (n+1)=s (F n))(h0:F 0=z): ∃n,F n x0 x1 x2 x3=some r:=⟨FUEL,qqf (F:=F) (Q:=fun f=>f x0 x1 x2 x3=some r) h0 hs j⟩
theorem it5{a0 a1 a2 a3 a4:Type}{s:(a0->a1->a2->a3->a4->Option Out)->a0->a1->a2->a3->a4->Option Out}{z:a0->a1->a2->a3->a4->Option Out}{x0:a0}{x1:a1}{x2:a2}{x3:a3}{x4:a4}{r:Out}(j:qdl s z FUEL x0 x1 x2 x3 x4=some r)(F:Nat->a0->a1->a2->a3->a4->Option Out)(hs: ∀n,F (n+1)=s (F n))(h0:F 0=z): ∃n,F n x0 x1 x2 x3 x4=some r:=⟨FUEL,qqf (F:=F) (Q:=fun f=>f x0 x1 x2 x3 x4=some r) h0 hs j⟩
theorem it6{a0 a1 a2 a3 a4 a5:Type}{s:(a0->a1->a2->a3->a4->a5->Option Out)->a0->a1->a2->a3->a4->a5->Option Out}{z:a0->a1->a2->a3->a4->a5->Option Out}{x0:a0}{x1:a1}{x2:a2}{x3:a3}{x4:a4}{x5:a5}{r:Out}(j:qdl s z FUEL x0 x1 x2 x3 x4 x5=some r)(F:Nat->a0->a1->a2->a3->a4->a5->Option Out)(hs: ∀n,F (n+1)=s (F n))(h0:F 0=z): ∃n,F n x0 x1 x2 x3 x4 x5=some r:=⟨FUEL,qqf (F:=F) (Q:=fun f=>f x0 x1 x2 x3 x4 x5=some r) h0 hs j⟩
theorem it8{a0 a1 a2 a3 a4 a5 a6 a7:Type}{s:(a0->a1->a2->a3->a4->a5->a6->a7->Option Out)->a0->a1->a2->a3->a4->a5->a6->a7->Option Out}{z:a0->a1->a2->a3->a4->a5->a6->a7->Option Out}{x0:a0}{x1:a1}{x2:a2}{x3:a3}{x4:a4}{x5:a5}{x6:a6}{x7:a7}{r:Out}(j:qdl s z FUEL x0 x1 x2 x3 x4 x5 x6 x7=some r)(F:Nat->a0->a1->a2->a3->a4->a5->a6->a7->Option Out)(hs: ∀n,F (n+1)=s (F n))(h0:F 0=z): ∃n,F n x0 x1 x2 x3 x4 x5 x6 x7=some r:=⟨FUEL,qqf (F:=F) (Q:=fun f=>f x0 x1 x2 x3 x4 x5 x6 x7=some r) h0 hs j⟩
theorem it10{a0 a1 a2 a3 a4 a5 a6 a7 a8 a9:Type}{s:(a0->a1->a2->a3->a4->a5->a6->a7->a8->a9->Option Out)->a0->a1->a2->a3->a4->a5->a6->a7->a8->a9->Option Out}{z:a0->a1->a2->a3->a4->a5->a6->a7->a8->a9->Option Out}{x0:a0}{x1:a1}{x2:a2}{x3:a3}{x4:a4}{x5:a5}{x6:a6}{x7:a7}{x8:a8}{x9:a9}{r:Out}(j:qdl s z FUEL x0 x1 x2 x3 x4 x5 x6 x7 x8 x9=some r)(F:Nat->a0->a1->a2->a3->a4->a5->a6->a7->a8->a9->Option Out)(hs: ∀n,F (n+1)=s (F n))(h0:F 0=z): ∃n,F n x0 x1 x2 x3 x4 x5 x6 x7 x8 x9=some r:=⟨FUEL,qqf (F:=F) (Q:=fun f=>f x0 x1 x2 x3 x4 x5 x6 x7 x8 x9=some r) h0 hs j⟩
theorem jt1{a0:Type}{G:Nat->a0->Option Out}{x0:a0}{r:Out}(j:G FUEL x0=some r)(F:Nat->a0->Option Out)(s:(a0->Option Out)->a0->Option Out)(hG: ∀n,G (n+1)=s (G n))(hs: ∀n,F (n+1)=s (F n))(h0:F 0=G 0): ∃n,F n x0=some r:=⟨FUEL,by rw[eqF hs hG h0];exact j⟩
theorem jt2{a0 a1:Type}{G:Nat->a0->a1->Option Out}{x0:a0}{x1:a1}{r:Out}(j:G FUEL x0 x1=some r)(F:Nat->a0->a1->Option Out)(s:(a0->a1->Option Out)->a0->a1->Option Out)(hG: ∀n,G (n+1)=s (G n))(hs: ∀n,F (n+1)=s (F n))(h0:F 0=G 0): ∃n,F n x0 x1=some r:=⟨FUEL,by rw[eqF hs hG h0];exact j⟩
theorem jt3{a0 a1 a2:Type}{G:Nat->a0->a1->a2->Option Out}{x0:a0}{x1:a1}{x2:a2}{r:Out}(j:G FUEL x0 x1 x2=some r)(F:Nat->a0->a1->a2->Option Out)(s:(a0->a1->a2->Option Out)->a0->a1->a2->Option Out)(hG: ∀n,G (n+1)=s (G n))(hs: ∀n,F (n+1)=s (F n))(h0:F 0=G 0): ∃n,F n x0 x1 x2=some r:=⟨FUEL,by rw[eqF hs hG h0];exact j⟩
theorem jt4{a0 a1 a2 a3:Type}{G:Nat->a0->a1->a2->a3->Option Out}{x0:a0}{x1:a1}{x2:a2}{x3:a3}{r:Out}(j:G FUEL x0 x1 x2 x3=some r)(F:Nat->a0->a1->a2->a3->Option Out)(s:(a0->a1->a2->a3->Option Out)->a0->a1->a2->a3->Option Out)(hG: ∀n,G (n+1)=s (G n))(hs: ∀n,F (n+1)=s (F n))(h0:F 0=G 0): ∃n,F n x0 x1 x2 x3=some r:=⟨FUEL,by rw[eqF hs hG h0];exact j⟩
theorem jt5{a0 a1 a2 a3 a4:Type}{G:Nat->a0->a1->a2->a3->a4->Option Out}{x0:a0}{x1:a1}{x2:a2}{x3:a3}{x4:a4}{r:Out}(j:G FUEL x0 x1 x2 x3 x4=some r)(F:Nat->a0->a1->a2->a3->a4->Option Out)(s:(a0->a1->a2->a3->a4->Option Out)->a0->a1->a2->a3->a4->Option Out)(hG: ∀n,G (n+1)=s (G n))(hs: ∀n,F (n+1)=s (F n))(h0:F 0=G 0): ∃n,F n x0 x1 x2 x3 x4=some r:=⟨FUEL,by rw[eqF hs hG h0];exact j⟩
theorem jt6{a0 a1 a2 a3 a4 a5:Type}{G:Nat->a0->a1->a2->a3->a4->a5->Option Out}{x0:a0}{x1:a1}{x2:a2}{x3:a3}{x4:a4}{x5:a5}{r:Out}(j:G FUEL x0 x1 x2 x3 x4 x5=some r)(F:Nat->a0->a1->a2->a3->a4->a5->Option Out)(s:(a0->a1->a2->a3->a4->a5->Option Out)->a0->a1->a2->a3->a4->a5->Option Out)(hG: ∀n,G (n+1)=s (G n))(hs: ∀n,F (n+1)=s (F n))(h0:F 0=G 0): ∃n,F n x0 x1 x2 x3 x4 x5=some r:=⟨FUEL,by rw[eqF hs hG h0];exact j⟩
theorem jt7{a0 a1 a2 a3 a4 a5 a6:Type}{G:Nat->a0->a1->a2->a3->a4->a5->a6->Option Out}{x0:a0}{x1:a1}{x2:a2}{x3:a3}{x4:a4}{x5:a5}{x6:a6}{r:Out}(j:G FUEL x0 x1 x2 x3 x4 x5 x6=some r)(F:Nat->a0->a1->a2->a3->a4->a5->a6->Option Out)(s:(a0->a1->a2->a3->a4->a5->a6->Option Out)->a0->a1->a2->a3->a4->a5->a6->Option Out)(hG: ∀n,G (n+1)=s (G n))(hs: ∀n,F (n+1)=s (F n))(h0:F 0=G 0): ∃n,F n x0 x1 x2 x3 x4 x5 x6=some r:=⟨FUEL,by rw[eqF hs hG h0];exact j⟩
theorem jt8{a0 a1 a2 a3 a4 a5 a6 a7:Type}{G:Nat->a0->a1->a2->a3->a4->a5->a6->a7->Option Out}{x0:a0}{x1:a1}{x2:a2}{x3:a3}{x4:a4}{x5:a5}{x6:a6}{x7:a7}{r:Out}(j:G FUEL x0 x1 x2 x3 x4 x5 x6 x7=some r)(F:Nat->a0->a1->a2->a3->a4->a5->a6->a7->Option Out)(s:(a0->a1->a2->a3->a4->a5->a6->a7->Option Out)->a0->a1->a2->a3->a4->a5->a6->a7->Option Out)(hG: ∀n,G (n+1)=s (G n))(hs: ∀n,F (n+1)=s (F n))(h0:F 0=G 0): ∃n,F n x0 x1 x2 x3 x4 x5 x6 x7=some r:=⟨FUEL,by rw[eqF hs hG h0];exact j⟩
theorem jt9{a0 a1 a2 a3 a4 a5 a6 a7 a8:Type}{G:Nat->a0->a1->a2->a3->a4->a5->a6->a7->a8->Option Out}{x0:a0}{x1:a1}{x2:a2}{x3:a3}{x4:a4}{x5:a5}{x6:a6}{x7:a7}{x8:a8}{r:Out}(j:G FUEL x0 x1 x2 x3 x4 x5 x6 x7 x8=some r)(F:Nat->a0->a1->a2->a3->a4->a5->a6->a7->a8->Option Out)(s:(a0->a1->a2->a3->a4->a5->a6->a7->a8->Option Out)->a0->a1->a2->a3->a4->a5->a6->a7->a8->Option Out)(hG: ∀n,G (n+1)=s (G n))(hs: ∀n,F (n+1)=s (F n))(h0:F 0=G 0): ∃n,F n x0 x1 x2 x3 x4 x5 x6 x7 x8=some r:=⟨FUEL,by rw[eqF hs hG h0];exact j⟩
section
variable {P:Program}
end
end Go.Proofs.YtoiikagnjcjccaaGreatDoorA
