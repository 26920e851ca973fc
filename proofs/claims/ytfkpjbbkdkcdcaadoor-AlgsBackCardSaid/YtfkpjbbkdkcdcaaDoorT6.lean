/-
 A law's contract is its row's step, where the row lists variables; data that stay; what comes in. Conditions: none.
-/
import Derived.Test.YtfkpjbbkdkcdcaaDoorK3
import Derived.WideKeyArgs
import Derived.Lib.LaidU8
import Derived.LaidLaws
import Derived.SizedLaws
import Derived.ChangeSlices
import Derived.Test.YtfkpjbbkdkcdcaaDoorT5
import Derived.ChangeArms
import GoSem.PinnedTables
set_option linter.unusedVariables false
set_option linter.unusedSimpArgs false
set_option maxRecDepth 100000
namespace Go.Proofs.YtfkpjbbkdkcdcaaDoorA
open Go.ChangeShapes Go.WideShapes Go.ChangeAt Go.RowKit

/-- nothing that was there has turned, block by block -/
def Still (W W' : World) : Prop := Stays W W' /\ ∀ b : Nat, b < W.heap.size -> W'.heap[b]? = W.heap[b]?

theorem law_preG {glob : Nat -> Option CV} {W : World} {xs : List V} {vs : List Value} (hg : ∀ g c, glob g = some c -> CRep W (fun b => b < W.heap.size) (.vp c 0 0) (.pointer (some ⟨g, 0, none⟩))) (h : RepL W (fun b => b < W.heap.size) (fun _ => none) (fun _ => none) xs vs) : Pre glob W (fun b => b < W.heap.size) (fun _ => none) (fun _ => False) xs [] vs := by
 refine ⟨by simp, h, ⟨fun b hb => hb, fun b hb => hb, fun p o hp => (by cases hp), fun p q o o' b x y x' y' hp => (by cases hp), fun p o b x y hp => (by cases hp), fun b hb => .inl hb⟩, hg⟩

theorem law_callsG {glob : Nat -> Option CV} {P : Program} {g : FuncId} {fn : Func} {S : FSpec} (hs : Sound P glob g S) (hf : P.funcs[g]? = some fn) (hn : (fn.name == "runtime.NumGoroutine") = false) (hb : fn.body.isSome = true) {xs : List V} {vs : List Value} {W : World}
  (hg : ∀ g c, glob g = some c -> CRep W (fun b => b < W.heap.size) (.vp c 0 0) (.pointer (some ⟨g, 0, none⟩)))
  (hS : S xs [] = some (.ret [.cl (.bool true)] [])) (h : RepL W (fun b => b < W.heap.size) (fun _ => none) (fun _ => none) xs vs) : Calls P g vs.toArray W fun e W' => e = .returned (.bool true) /\ Still W W' := by
 have hr := hs xs [] _ W _ _ _ vs hS (law_preG hg h)
 have key : ∀ e W', Ends W (fun b => b < W.heap.size) (fun _ => none) (fun _ => False) [] (.ret [.cl (.bool true)] []) e W' -> e = .returned (.bool true) /\ Still W W' := fun e W' he => by
  obtain ⟨us, Im', ρ', rfl, hp, hl, hv⟩ := he
  refine ⟨?_, left_of hp.fr, fun b hb => hp.fr.block b hb fun f => f⟩
  match us, hl with
  | [u], _ =>
   have := hv 0 _ u rfl rfl
   have := this.bool
   rw [this]
   rfl
 rcases hr with ⟨_, hc⟩ | ⟨v, w', h1, _⟩
 ·exact hc.mono fun e W' he => key e W' he
 ·exfalso
  obtain ⟨c, hc⟩ := Option.isSome_iff_exists.1 hb
  have hn' : ¬ fn.name = "runtime.NumGoroutine" := by simpa using hn
  simp [callFunc, hf, hn', hc] at h1

/-! ### data that stay -/
theorem still_same {W W' : World} (h : Still W W') {p : MemPlace} (hp : p.block < W.heap.size) : W.sameAt W' p := by
 cases p with
 | cell b o =>
  show W'.cell? ⟨b, o, none⟩ = W.cell? ⟨b, o, none⟩
  unfold World.cell?
  rw [h.2 b hp]
 | map b => exact h.2 b hp

section
variable {H : Type} {enc : TypeId × Value -> H} {P : Program}
theorem trodAll_stays {W W' : World} (hl : laidOutB P = true) {sp : Nat -> Bool} : ∀ {ts : List TypeId} {vs : List Value} {ds : List (DataW H)} {ps : List MemPlace}, (∀ t ∈ ts, P.readableRec t = true /\ t < P.types.size) -> DataW.TrodAll enc P W 0 (fun _ => true) true ts vs ds ps -> (∀ p ∈ ps, W.sameAt W' p) -> (∀ p ∈ ps, sp p.block = true) -> DataW.TrodAll enc P W' 0 sp true ts vs ds ps
 | [], vs, ds, ps, _, h, _, _ => by
  obtain ⟨rfl, rfl, rfl⟩ := trodAll_nil h
  exact trodAll_mk0
 | t :: ts, vs, ds, ps, ht, h, hs, hp => by
  obtain ⟨v, vs', d, ds', p, q, rfl, rfl, rfl, h1, h2⟩ := trodAll_cons h
  refine trodAll_cons_mk (WideElems.Trod_stays hl (ht t (by simp)).1 (ht t (by simp)).2 h1 (fun x hx => hs x (by simp [hx])) fun x hx => hp x (by simp [hx])) (trodAll_stays hl (fun t' ht' => ht t' (by simp [ht'])) h2 (fun x hx => hs x (by simp [hx])) fun x hx => hp x (by simp [hx]))

/-! ### what came in -/
theorem cell_lt {W : World} {a : Addr} {v : Value} (h : W.cell? a = some v) : a.block < W.heap.size := by
 unfold World.cell? at h
 split at h
 ·rename_i h1
  exact (Array.getElem?_eq_some_iff.1 h1).1
 ·cases h
/-- a slice of numbers that came in -/
theorem open_sli {W : World} {b0 : Nat} {t e : TypeId} {k : IntKind} {v : Value} {d : DataW H} {ps : List MemPlace} (ht : P.underlying t = some (.slice e)) (he : P.underlying e = some (.int k)) (hc : P.cellsOf e = 1)
  (hval : Value.okWide P W .any b0 t v) (h : DataW.Trod enc P W 0 (fun _ => true) true t v d ps) : ∃ l : List Int, CRep W (fun b => b < W.heap.size) (.sli k l) v /\ ∀ n ∈ l, (Lit.int k n).wf = true := by
 obtain ⟨a0, len0, cap0, rfl⟩ := okWide_slice ht hval
 obtain ⟨n, h⟩ := h
 rcases open_ints ht he hc h with ⟨hcs, _⟩ | ⟨a, len, cap, zs, hcs, _, hl, _, hz, _, hcell, hw⟩
 ·have hcs : [Value.slice a0 len0 cap0] = [.slice none 0 0] := hcs
  simp only [List.cons.injEq, Value.slice.injEq, and_true] at hcs
  obtain ⟨rfl, rfl, rfl⟩ := hcs
  exact ⟨[], .sli _ _ _ _ _ rfl (Nat.le_refl _) fun i n hi => by simp at hi, fun n hn => by simp at hn⟩
 ·have hcs : [Value.slice a0 len0 cap0] = [.slice (some a) len cap] := hcs
  simp only [List.cons.injEq, Value.slice.injEq, and_true] at hcs
  obtain ⟨rfl, rfl, rfl⟩ := hcs
  have hz : zs.length = cap0 := hz
  refine ⟨zs.take len0, .sli _ _ _ _ _ (by simp; omega) hl fun i n hi => ?_, fun n hn => hw n (List.mem_of_mem_take hn)⟩
  rw [List.getElem?_take] at hi
  split at hi
  ·rename_i hlt
   have hlz : i < zs.length := by omega
   have hx := hcell i hlz
   have e : zs.getD i 0 = n := by rw [List.getD_eq_getElem?_getD, hi]; rfl
   rw [e] at hx
   have := cell_lt hx
   rw [block_add] at this
   exact ⟨a, rfl, this, hx⟩
  ·cases hi
end

/-! ### lengths -/
section
variable {H : Type} {enc : TypeId × Value -> H} {P : Program}
end

/-! ### variables of a cell -/
/-! ### a witness' world: variables that hold what is listed -/
end Go.Proofs.YtfkpjbbkdkcdcaaDoorA

namespace Go.Proofs.YtfkpjbbkdkcdcaaDoorA
open Go.ChangeShapes Go.WideShapes Go.ChangeAt Go.RowKit
/-! ### the tables -/
theorem first_vp {W : World} (h : ∀ (i : Nat) (x : Int), u8FirstC[i]? = some x -> W.cell? ⟨3, i, none⟩ = some (.int .u8 x)) : CRep W (fun b => b < W.heap.size) (.vp (.aggi 256 .u8 u8First) 0 0) (.pointer (some ⟨3, 0, none⟩)) := by
 have e : u8First = u8FirstC := shut_eq _
 rw [e]
 have h0 := cell_lt (h 0 240 rfl)
 refine CRep.vp (.aggi 256 .u8 u8FirstC) 0 0 1 (u8FirstC.map (.int .u8)) 3 0 (fun i => .int .u8 (u8FirstC.getD i 0)) rfl rfl h0 (fun j c hj => ?_) (fun j c hj => rfl) (fun j c hj => ?_)
 ·rw [List.getElem?_map] at hj
  obtain ⟨x, hx, rfl⟩ := Option.map_eq_some_iff.1 hj
  rw [Nat.zero_add, h j x hx, List.getD_eq_getElem?_getD, hx]
  rfl
 ·rw [List.getElem?_map] at hj
  obtain ⟨x, hx, rfl⟩ := Option.map_eq_some_iff.1 hj
  rw [List.getD_eq_getElem?_getD, hx]
  exact .int ..
def acceptL : List Int := [128, 191, 160, 191, 128, 159, 144, 191, 128, 143] ++ List.replicate 22 0
theorem accept_vp {W : World} (h : ∀ (i : Nat) (x : Int), acceptL[i]? = some x -> W.cell? ⟨4, i, none⟩ = some (.int .u8 x)) : CRep W (fun b => b < W.heap.size) (.vp (.agga 16 2 u8Accept) 0 0) (.pointer (some ⟨4, 0, none⟩)) := by
 have e : u8Accept = u8AcceptC := shut_eq _
 rw [e]
 have h0 := cell_lt (h 0 128 rfl)
 have ef : u8AcceptC.flatMap cell1 = acceptL.map (.int .u8) := rfl
 refine CRep.vp (.agga 16 2 u8AcceptC) 0 0 2 (acceptL.map (.int .u8)) 4 0 (fun i => .int .u8 (acceptL.getD i 0)) (by rw [<- ef]; rfl) ⟨rfl, fun c hc => ?_⟩ h0 (fun j c hj => ?_) (fun j c hj => rfl) (fun j c hj => ?_)
 ·unfold u8AcceptC at hc
  obtain ⟨p, _, rfl⟩ := List.mem_map.1 hc
  rfl
 ·rw [List.getElem?_map] at hj
  obtain ⟨x, hx, rfl⟩ := Option.map_eq_some_iff.1 hj
  rw [Nat.zero_add, h j x hx, List.getD_eq_getElem?_getD, hx]
  rfl
 ·rw [List.getElem?_map] at hj
  obtain ⟨x, hx, rfl⟩ := Option.map_eq_some_iff.1 hj
  rw [List.getD_eq_getElem?_getD, hx]
  exact .int ..
def acceptD : DataW Unit := .agg [.agg [.lit (.int .u8 128), .lit (.int .u8 191)], .agg [.lit (.int .u8 160), .lit (.int .u8 191)], .agg [.lit (.int .u8 128), .lit (.int .u8 159)], .agg [.lit (.int .u8 144), .lit (.int .u8 191)], .agg [.lit (.int .u8 128), .lit (.int .u8 143)], .agg [.lit (.int .u8 0), .lit (.int .u8 0)], .agg [.lit (.int .u8 0), .lit (.int .u8 0)], .agg [.lit (.int .u8 0), .lit (.int .u8 0)], .agg [.lit (.int .u8 0), .lit (.int .u8 0)], .agg [.lit (.int .u8 0), .lit (.int .u8 0)], .agg [.lit (.int .u8 0), .lit (.int .u8 0)], .agg [.lit (.int .u8 0), .lit (.int .u8 0)], .agg [.lit (.int .u8 0), .lit (.int .u8 0)], .agg [.lit (.int .u8 0), .lit (.int .u8 0)], .agg [.lit (.int .u8 0), .lit (.int .u8 0)], .agg [.lit (.int .u8 0), .lit (.int .u8 0)]]
theorem gFirst : Tryd.prog.globalNamed "unicode/utf8.first" = some 3 := by kernel_rfl
theorem gAccept : Tryd.prog.globalNamed "unicode/utf8.acceptRanges" = some 4 := by kernel_rfl
theorem tFirst : (Tryd.prog.globals[3]?).map (·.type) = some 182 := by kernel_rfl
theorem tAccept : (Tryd.prog.globals[4]?).map (·.type) = some 185 := by kernel_rfl
theorem c5 : Tryd.prog.cellsOf 5 = 1 := by kernel_rfl
theorem c182 : Tryd.prog.cellsOf 182 = 256 := by kernel_rfl
theorem c184 : Tryd.prog.cellsOf 184 = 2 := by kernel_rfl
theorem pinned_eq : Go.Pinned.utf8First = Lib.tabData .u8 u8FirstC := by kernel_rfl
theorem cells_first {W : World} (h : Lib.VarReads Tryd.prog W "unicode/utf8.first" Go.Pinned.utf8First) (i : Nat) (x : Int) (hx : u8FirstC[i]? = some x) : W.cell? ⟨3, i, none⟩ = some (.int .u8 x) := by
 obtain ⟨g, t, cs, fuel, p, hg, ht, hv, hd⟩ := h
 obtain rfl := Option.some.inj (gFirst.symm.trans hg)
 obtain rfl := Option.some.inj (tFirst.symm.trans ht)
 rw [pinned_eq] at hd
 have hcs := Lib.cells_of_tab Tryd.underlying182 Tryd.underlying5 c5 c182 hd
 rw [World.var?_cell gFirst hv i, <- Array.getElem?_toList, hcs, List.getElem?_map, hx]
 rfl
theorem cells_accept {W : World} (h : Lib.VarReads Tryd.prog W "unicode/utf8.acceptRanges" acceptD) (i : Nat) (x : Int) (hx : acceptL[i]? = some x) : W.cell? ⟨4, i, none⟩ = some (.int .u8 x) := by
 obtain ⟨g, t, cs, fuel, p, hg, ht, hv, hd⟩ := h
 obtain rfl := Option.some.inj (gAccept.symm.trans hg)
 obtain rfl := Option.some.inj (tAccept.symm.trans ht)
 have hi : i < 32 := (List.getElem?_eq_some_iff.1 hx).1
 rw [World.var?_cell gAccept hv i, <- Array.getElem?_toList]
 obtain ⟨fuel', d, q, hdd, hf⟩ := Lib.array_elem Tryd.underlying185 hd (i / 2) (by omega)
 rw [c184] at hf
 have hz : d = .agg ([acceptL.getD (2 * (i / 2)) 0, acceptL.getD (2 * (i / 2) + 1) 0].map fun z => .lit (.int .u8 z)) := by
  have hall : ∀ j : Fin 16, ([.agg [.lit (.int .u8 128), .lit (.int .u8 191)], .agg [.lit (.int .u8 160), .lit (.int .u8 191)], .agg [.lit (.int .u8 128), .lit (.int .u8 159)], .agg [.lit (.int .u8 144), .lit (.int .u8 191)], .agg [.lit (.int .u8 128), .lit (.int .u8 143)], .agg [.lit (.int .u8 0), .lit (.int .u8 0)], .agg [.lit (.int .u8 0), .lit (.int .u8 0)], .agg [.lit (.int .u8 0), .lit (.int .u8 0)], .agg [.lit (.int .u8 0), .lit (.int .u8 0)], .agg [.lit (.int .u8 0), .lit (.int .u8 0)], .agg [.lit (.int .u8 0), .lit (.int .u8 0)], .agg [.lit (.int .u8 0), .lit (.int .u8 0)], .agg [.lit (.int .u8 0), .lit (.int .u8 0)], .agg [.lit (.int .u8 0), .lit (.int .u8 0)], .agg [.lit (.int .u8 0), .lit (.int .u8 0)], .agg [.lit (.int .u8 0), .lit (.int .u8 0)]] : List (DataW Unit))[j.val]? = some (.agg ([acceptL.getD (2 * j.val) 0, acceptL.getD (2 * j.val + 1) 0].map fun z => .lit (.int .u8 z))) := by
   intro ⟨j, hj⟩
   have hj' : j = 0 \/ j = 1 \/ j = 2 \/ j = 3 \/ j = 4 \/ j = 5 \/ j = 6 \/ j = 7 \/ j = 8 \/ j = 9 \/ j = 10 \/ j = 11 \/ j = 12 \/ j = 13 \/ j = 14 \/ j = 15 := by omega
   rcases hj' with rfl | rfl | rfl | rfl | rfl | rfl | rfl | rfl | rfl | rfl | rfl | rfl | rfl | rfl | rfl | rfl <;> rfl
  have := hall ⟨i / 2, by omega⟩
  exact Option.some.inj (hdd.symm.trans this)
 rw [hz] at hf
 have hcs := Lib.ints_of_struct Tryd.underlying184 (fun j f hj => by
  match j, hj with
  | 0, hj => cases hj; exact ⟨Tryd.underlying5, rfl, c5⟩
  | 1, hj => cases hj; exact ⟨Tryd.underlying5, rfl, c5⟩
  | j + 2, hj => simp at hj) c184 hf
 have hget := congrArg (·[i % 2]?) hcs
 simp only [List.getElem?_take, List.getElem?_drop] at hget
 rw [if_pos (by omega), show i / 2 * 2 + i % 2 = i by omega] at hget
 rw [hget]
 have hxd : acceptL.getD i 0 = x := by rw [List.getD_eq_getElem?_getD, hx]; rfl
 rcases Nat.mod_two_eq_zero_or_one i with h2 | h2
 ·rw [h2]
  show some (Value.int .u8 (acceptL.getD (2 * (i / 2)) 0)) = _
  rw [show 2 * (i / 2) = i by omega, hxd]
 ·rw [h2]
  show some (Value.int .u8 (acceptL.getD (2 * (i / 2) + 1) 0)) = _
  rw [show 2 * (i / 2) + 1 = i by omega, hxd]
/-- the tables laid, for a witness -/
def layRow (l : List Int) : Go.Obj -> Go.Obj
 | .cells _ t fr => .cells (l.map (Value.int .u8)).toArray t fr
 | o => o
def layDer (h : Array Go.Obj) : Array Go.Obj := (h.modify 3 (layRow u8FirstC)).modify 4 (layRow acceptL)
theorem tf_mkV {n : Nat} {t : Int} {b : List Int} {l : List CV} (h1 : ∀ z ∈ b, 0 <= z /\ z <= 255) (h3 : ∀ c ∈ l, ∃ y, c = .agg y /\ isTf n y = true) : isTf (n + 1) [.int .i64 t, .sli .u8 b, .slg 3 l] = true := by
 show (b.all byteB && l.all fun c => match c with | .agg x => isTf n x | _ => false) = true
 simp only [Bool.and_eq_true, List.all_eq_true]
 refine ⟨fun z hz => decide_eq_true (h1 z hz), fun c hc => ?_⟩
 obtain ⟨y, rfl, hy⟩ := h3 c hc
 exact hy
theorem isT_ofV {x : List CV} {n : Nat} (h : isTf n x = true) : isT x = true := by
 unfold isT; rw [shut_eq]; exact @decide_eq_true _ (Classical.propDecidable _) ⟨n, h⟩
theorem tf_mono : ∀ {k m : Nat} {y : List CV}, isTf k y = true -> k <= m -> isTf m y = true
 | k, m, y, hy, hkm => by
  obtain ⟨k', t, b, l, rfl, rfl, hb, hl⟩ := tf_inv hy
  obtain ⟨m, rfl⟩ : ∃ q, m = q + 1 := ⟨m - 1, by omega⟩
  refine tf_mkV hb fun c hc => ?_
  obtain ⟨z, rfl, hz⟩ := hl c hc
  exact ⟨z, rfl, tf_mono hz (by omega)⟩
section
variable {H : Type} {enc : TypeId × Value -> H} {P : Program}
theorem sli_cells {W : World} {n : Nat} {t e : TypeId} {k : IntKind} {cs : List Value} {x : DataW H × List MemPlace} (ht : P.underlying t = some (.slice e)) (he : P.underlying e = some (.int k)) (hc : P.cellsOf e = 1)
  (h : DataW.trod enc P W 0 (fun _ => true) true n t cs = some x) : ∃ (v : Value) (l : List Int), cs = [v] /\ oneC v = true /\ CRep W (fun b => b < W.heap.size) (.sli k l) v /\ ∀ n ∈ l, (Lit.int k n).wf = true := by
 rcases open_ints ht he hc h with ⟨hcs, _⟩ | ⟨a, len, cap, zs, hcs, _, hl, _, hz, _, hcell, hw⟩
 ·exact ⟨_, [], hcs, rfl, .sli _ _ _ _ _ rfl (Nat.le_refl _) fun i n hi => by simp at hi, fun n hn => by simp at hn⟩
 ·have hz : zs.length = cap := hz
  refine ⟨_, zs.take len, hcs, rfl, .sli _ _ _ _ _ (by simp; omega) hl fun i n hi => ?_, fun n hn => hw n (List.mem_of_mem_take hn)⟩
  rw [List.getElem?_take] at hi
  split at hi
  ·rename_i hlt
   have hlz : i < zs.length := by omega
   have hx := hcell i hlz
   have e : zs.getD i 0 = n := by rw [List.getD_eq_getElem?_getD, hi]; rfl
   rw [e] at hx
   have := cell_lt hx
   rw [block_add] at this
   exact ⟨a, rfl, this, hx⟩
  ·cases hi
end
theorem cN : Tryd.prog.cellsOf 27 = 3 := by kernel_rfl
theorem c3 : Tryd.prog.cellsOf 3 = 1 := by kernel_rfl
theorem cB : Tryd.prog.cellsOf 25 = 1 := by kernel_rfl
theorem cK : Tryd.prog.cellsOf 22 = 1 := by kernel_rfl
theorem node_cells {H : Type} {enc : TypeId × Value -> H} {W : World} : ∀ (n : Nat) (cs : List Value) (x : DataW H × List MemPlace), DataW.trod enc Tryd.prog W 0 (fun _ => true) true n 27 cs = some x ->
  ∃ (y : List CV), isTf n y = true /\ cs.length = 3 /\ y.length = 3 /\ ∀ (r : Nat) (c : CV) (v : Value), y[r]? = some c -> cs[r]? = some v -> oneC v = true /\ CRep W (fun b => b < W.heap.size) c v
 | n, cs, x, h => by
  obtain ⟨xs, m, rfl, hx, hl, hxl, hall⟩ := DataW.trod_struct Tryd.underlying27 h
  rw [cN] at hl
  have hxl : xs.length = 3 := hxl
  match cs, hl, xs, hxl with
  | [v0, v1, v2], _, [x0, x1, x2], _ =>
   have h0 := hall 0 _ rfl
   have h1 := hall 1 _ rfl
   have h2 := hall 2 _ rfl
   have h0 : DataW.trod enc Tryd.prog W 0 (fun _ => true) true m 3 (([v0, v1, v2].drop 0).take (Tryd.prog.cellsOf 3)) = some x0 := h0
   have h1 : DataW.trod enc Tryd.prog W 0 (fun _ => true) true m 25 (([v0, v1, v2].drop 1).take (Tryd.prog.cellsOf 25)) = some x1 := h1
   have h2 : DataW.trod enc Tryd.prog W 0 (fun _ => true) true m 22 (([v0, v1, v2].drop 2).take (Tryd.prog.cellsOf 22)) = some x2 := h2
   rw [c3] at h0
   rw [cB] at h1
   rw [cK] at h2
   have h0 : DataW.trod enc Tryd.prog W 0 (fun _ => true) true m 3 [v0] = some x0 := h0
   have h1 : DataW.trod enc Tryd.prog W 0 (fun _ => true) true m 25 [v1] = some x1 := h1
   have h2 : DataW.trod enc Tryd.prog W 0 (fun _ => true) true m 22 [v2] = some x2 := h2
   obtain ⟨t, e0, _, _⟩ := DataW.trod_int Tryd.underlying3 h0
   obtain ⟨vb, b, e1, ob, rb, wb⟩ := sli_cells Tryd.underlying25 Tryd.underlying5 c5 h1
   simp only [List.cons.injEq, and_true] at e0 e1
   subst e0 e1
   have kids : ∃ l : List CV, (∀ c ∈ l, ∃ y, c = .agg y /\ isTf m y = true) /\ oneC v2 = true /\ CRep W (fun b => b < W.heap.size) (.slg 3 l) v2 := by
    rcases DataW.trod_slice Tryd.underlying22 h2 with ⟨hcs, _⟩ | ⟨a, len, cap, elems, rest, m', hm, hcs, _, _, hlc, _, hel, hcell, _, _⟩
    ·replace hcs := (List.cons.inj hcs).1
     subst hcs
     exact ⟨[], fun c hc => by simp at hc, rfl, .slg 3 [] none 0 0 (fun _ => .nilIface) (fun c hc => by simp at hc) rfl (Nat.le_refl _) (fun j c hj => by simp at hj) (fun j c hj => by simp at hj) (fun j c hj => by simp at hj)⟩
    ·replace hcs := (List.cons.inj hcs).1
     subst hcs
     rw [cN] at hcell
     have hch : ∀ i, i < len -> ∃ y : List CV, isTf m' y = true /\ y.length = 3 /\ ∀ (r : Nat) (c : CV), y[r]? = some c -> ∃ v, W.cell? (a.add (i * 3 + r)) = some v /\ oneC v = true /\ CRep W (fun b => b < W.heap.size) c v := fun i hi => by
      have hx := hcell i hi
      rw [List.getElem?_eq_getElem (by omega : i < elems.length), Option.bind_eq_some_iff] at hx
      obtain ⟨ci, hci, hti⟩ := hx
      obtain ⟨y, hy, hcl, hyl, hrep⟩ := node_cells m' ci _ hti
      obtain ⟨_, _, hcc⟩ := World.cells?_some hci
      refine ⟨y, hy, hyl, fun r c hr => ?_⟩
      have hr3 : r < 3 := by have := (List.getElem?_eq_some_iff.1 hr).1; omega
      obtain ⟨v, hv⟩ := get_some (b := ci) (i := r) (by omega)
      have := hcc r hr3
      rw [hv, add_add] at this
      obtain ⟨o1, o2⟩ := hrep r c v hr hv
      exact ⟨v, this, o1, o2⟩
     have hg : ∃ g : Nat -> List CV, ∀ i, i < len -> isTf m' (g i) = true /\ (g i).length = 3 /\ ∀ (r : Nat) (c : CV), (g i)[r]? = some c -> ∃ v, W.cell? (a.add (i * 3 + r)) = some v /\ oneC v = true /\ CRep W (fun b => b < W.heap.size) c v :=
      ⟨fun i => @dite _ (i < len) (Classical.propDecidable _) (fun h => Classical.choose (hch i h)) (fun _ => []), fun i hi => by
       simp only []
       rw [@dif_pos _ (Classical.propDecidable _) hi]
       exact Classical.choose_spec (hch i hi)⟩
     obtain ⟨g, hg⟩ := hg
     have hmem : ∀ c ∈ (List.range len).map fun i => CV.agg (g i), (cell1 c).length = 3 := fun c hc => by
      obtain ⟨i, hi, rfl⟩ := List.mem_map.1 hc
      exact (hg i (List.mem_range.1 hi)).2.1
     have key : ∀ (j : Nat) (c : CV), (((List.range len).map fun i => CV.agg (g i)).flatMap cell1)[j]? = some c -> ∃ v, W.cell? (a.add j) = some v /\ oneC v = true /\ CRep W (fun b => b < W.heap.size) c v := fun j c hj => by
      have hlt := (List.getElem?_eq_some_iff.1 hj).1
      rw [flat_len hmem, List.length_map, List.length_range] at hlt
      have hi : j / 3 < len := by omega
      have hfl := flat_get (f := cell1) (e := 3) (l := (List.range len).map fun i => CV.agg (g i)) (i := j / 3) (c := .agg (g (j / 3))) (j % 3) hmem (by simp [hi]) (Nat.mod_lt _ (by omega))
      rw [show j / 3 * 3 + j % 3 = j by omega, hj] at hfl
      obtain ⟨v, h1, h2, h3⟩ := (hg _ hi).2.2 (j % 3) c hfl.symm
      rw [show j / 3 * 3 + j % 3 = j by omega] at h1
      exact ⟨v, h1, h2, h3⟩
     refine ⟨(List.range len).map fun i => CV.agg (g i), fun c hc => ?_, rfl, .slg 3 _ (some a) len cap (fun j => (W.cell? (a.add j)).getD .nilIface) hmem (by simp) hlc (fun j c hj => ?_) (fun j c hj => ?_) fun j c hj => ?_⟩
     ·obtain ⟨i, hi, rfl⟩ := List.mem_map.1 hc
      exact ⟨_, rfl, tf_mono (hg i (List.mem_range.1 hi)).1 (by omega)⟩
     ·obtain ⟨v, h1, h2, h3⟩ := key j c hj
      have := cell_lt h1
      rw [block_add] at this
      exact ⟨a, rfl, this, by rw [h1]; rfl⟩
     ·obtain ⟨v, h1, h2, h3⟩ := key j c hj
      rw [h1]; exact h2
     ·obtain ⟨v, h1, h2, h3⟩ := key j c hj
      rw [h1]; exact h3
   obtain ⟨l, hk, ok2, rk2⟩ := kids
   refine ⟨[.int .i64 t, .sli .u8 b, .slg 3 l], tf_mkV (fun z hz => wf_u8_spec (wb z hz)) hk, rfl, rfl, fun r c v hr hv => ?_⟩
   match r, hr, hv with
   | 0, hr, hv => cases hr; cases hv; exact ⟨rfl, .int ..⟩
   | 1, hr, hv => cases hr; cases hv; exact ⟨ob, rb⟩
   | 2, hr, hv => cases hr; cases hv; exact ⟨ok2, rk2⟩
   | r + 3, hr, hv => simp at hr
theorem open_node {H : Type} {enc : TypeId × Value -> H} {W : World} {b0 : Nat} {v : Value} {d : DataW H} {ps : List MemPlace} (hval : Value.okWide Tryd.prog W .any b0 27 v) (h : DataW.Trod enc Tryd.prog W 0 (fun _ => true) true 27 v d ps) :
  ∃ a : List CV, CRep W (fun b => b < W.heap.size) (.agg a) v /\ isT a = true := by
 obtain ⟨cs, rfl, hcs⟩ := okWide_struct Tryd.underlying27 hval
 obtain ⟨n, h⟩ := h
 have h : DataW.trod enc Tryd.prog W 0 (fun _ => true) true n 27 cs.toList = some (d, ps) := h
 obtain ⟨y, hy, hl, hyl, hrep⟩ := node_cells n cs.toList _ h
 refine ⟨y, ?_, isT_ofV hy⟩
 have : CRep W (fun b => b < W.heap.size) (.agg y) (.agg cs.toList.toArray) := .agg y cs.toList (by omega) (fun v hv => ?_) fun j c v hj hv => (hrep j c v hj hv).2
 ·simpa using this
 ·obtain ⟨r, hr⟩ := List.mem_iff_getElem?.1 hv
  have hr3 := (List.getElem?_eq_some_iff.1 hr).1
  obtain ⟨c, hc⟩ := get_some (b := y) (i := r) (by omega)
  exact (hrep r c v hc hr).1
end Go.Proofs.YtfkpjbbkdkcdcaaDoorA

namespace Go.Proofs.YtfkpjbbkdkcdcaaDoorA
open Go.ChangeShapes Go.WideShapes Go.ChangeAt Go.RowKit
theorem isT_inv {a : List CV} (h : isT a = true) : ∃ t b k, a = [.int .i64 t, .sli .u8 b, .slg 3 k] := by
 obtain ⟨n, hn⟩ := isT_spec h
 obtain ⟨_, t, b, k, _, e, _⟩ := tf_inv hn
 exact ⟨t, b, k, e⟩
theorem bytesAny_of {l : List Int} (hw : ∀ n ∈ l, (Lit.int .u8 n).wf = true) : bytesAll l = true := by
 unfold bytesAll; rw [shut_eq, List.all_eq_true]; exact fun x hx => decide_eq_true (wf_u8_spec (hw x hx))
end Go.Proofs.YtfkpjbbkdkcdcaaDoorA

namespace Go.Proofs.YtfkpjbbkdkcdcaaDoorA
open Go.ChangeShapes Go.WideShapes Go.ChangeAt Go.RowKit
theorem agga_vp {W : World} {g m es : Nat} {k : IntKind} {l : List CV} {L : List Int} {z : Int} (hfl : rowOfC (.agga m es l) = some (es, L.map (CV.int k))) (hu : uni (.agga m es l)) (h : ∀ (i : Nat) (x : Int), L[i]? = some x -> W.cell? ⟨g, i, none⟩ = some (.int k x)) (h0 : L[0]? = some z) :
  CRep W (fun b => b < W.heap.size) (.vp (.agga m es l) 0 0) (.pointer (some ⟨g, 0, none⟩)) := by
 have hlt := cell_lt (h 0 z h0)
 have := CRep.vp (w := W) (Im := fun b => b < W.heap.size) (.agga m es l) 0 0 es (L.map (.int k)) g 0 (fun i => .int k (L.getD i 0)) hfl hu hlt (fun j c hj => ?_) (fun j c hj => rfl) (fun j c hj => ?_)
 ·simpa using this
 ·rw [List.getElem?_map] at hj
  obtain ⟨x, hx, rfl⟩ := Option.map_eq_some_iff.1 hj
  rw [Nat.zero_add, h j x hx, List.getD_eq_getElem?_getD, hx]
  rfl
 ·rw [List.getElem?_map] at hj
  obtain ⟨x, hx, rfl⟩ := Option.map_eq_some_iff.1 hj
  rw [List.getD_eq_getElem?_getD, hx]
  exact .int ..
def algRowsLL : List (List Int) := [[1, 3, 1, 0, 1, 1], [4, 2, 1, 0, 8, 2], [6, 2, 1, 0, 11, 1], [11, 3, 2, 1, 17, 1], [33, 2, 2, 5, 1, 1], [41, 1, 2, 4, 17, 1], [51, 3, 3, 2, 1, 1], [61, 3, 4, 4, 28, 1], [71, 3, 5, 3, 5, 20], [81, 3, 6, 3, 2, 20], [91, 3, 7, 3, 6, 20]]
def rowsFlat : List Int := algRowsLL.flatten
def rowsD {H : Type} : DataW H := .agg (algRowsLL.map fun l => .agg (l.map fun z => .lit (.int .i64 z)))
theorem gRows : Tryd.prog.globalNamed "apostille/algs.rows" = some 1 := by kernel_rfl
theorem tRows : (Tryd.prog.globals[1]?).map (·.type) = some 159 := by kernel_rfl
theorem c158 : Tryd.prog.cellsOf 158 = 6 := by kernel_rfl
theorem cI3 : Tryd.prog.cellsOf 3 = 1 := by kernel_rfl
theorem flat_at {ls : List (List Int)} {m : Nat} (hm : ∀ l ∈ ls, l.length = m) (hpos : 0 < m) : ∀ (i : Nat) (x : Int), ls.flatten[i]? = some x -> ∃ l, ls[i / m]? = some l /\ l[i % m]? = some x := by
 induction ls with
 | nil => intro i x h; simp at h
 | cons a r ih =>
  intro i x h
  have ha := hm a (by simp)
  rw [List.flatten_cons] at h
  rcases Nat.lt_or_ge i m with e | e
  ·rw [List.getElem?_append_left (by omega)] at h
   exact ⟨a, by rw [Nat.div_eq_of_lt e]; rfl, by rw [Nat.mod_eq_of_lt e]; exact h⟩
  ·rw [List.getElem?_append_right (by omega), ha] at h
   obtain ⟨l, h1, h2⟩ := ih (fun l hl => hm l (by simp [hl])) (i - m) x h
   obtain ⟨q, rfl⟩ : ∃ q, i = q + m := ⟨i - m, by omega⟩
   rw [Nat.add_sub_cancel] at h1 h2
   exact ⟨l, by rw [Nat.add_div_right _ hpos]; exact h1, by rw [Nat.add_mod_right]; exact h2⟩
theorem cells_rows {W : World} (h : Lib.VarReads Tryd.prog W "apostille/algs.rows" rowsD) (i : Nat) (x : Int) (hx : rowsFlat[i]? = some x) : W.cell? ⟨1, i, none⟩ = some (.int .i64 x) := by
 obtain ⟨g, t, cs, fuel, p, hg, ht, hv, hd⟩ := h
 obtain rfl := Option.some.inj (gRows.symm.trans hg)
 obtain rfl := Option.some.inj (tRows.symm.trans ht)
 obtain ⟨l, hl, hlx⟩ := flat_at (m := 6) (by decide) (by omega) i x hx
 have hi : i / 6 < 11 := (List.getElem?_eq_some_iff.1 hl).1
 rw [World.var?_cell gRows hv i, <- Array.getElem?_toList]
 obtain ⟨fuel', d, q, hdd, hf⟩ := Lib.array_elem Tryd.underlying159 hd (i / 6) hi
 rw [c158] at hf
 rw [List.getElem?_map, hl] at hdd
 obtain rfl := Option.some.inj hdd
 have hcs := Lib.ints_of_struct Tryd.underlying158 (fun j f hj => by
  match j, hj with
  | 0, hj => cases hj; exact ⟨Tryd.underlying3, rfl, cI3⟩
  | 1, hj => cases hj; exact ⟨Tryd.underlying3, rfl, cI3⟩
  | 2, hj => cases hj; exact ⟨Tryd.underlying3, rfl, cI3⟩
  | 3, hj => cases hj; exact ⟨Tryd.underlying3, rfl, cI3⟩
  | 4, hj => cases hj; exact ⟨Tryd.underlying3, rfl, cI3⟩
  | 5, hj => cases hj; exact ⟨Tryd.underlying3, rfl, cI3⟩
  | j + 6, hj => simp at hj) c158 hf
 have hget := congrArg (·[i % 6]?) hcs
 simp only [List.getElem?_take, List.getElem?_drop] at hget
 rw [if_pos (by omega), show i / 6 * 6 + i % 6 = i by omega] at hget
 rw [hget, List.getElem?_map, hlx]
 rfl
def layRowI (l : List Int) : Go.Obj -> Go.Obj
 | .cells _ t fr => .cells (l.map (Value.int .i64)).toArray t fr
 | o => o
theorem rows_vp {W : World} (h : ∀ (i : Nat) (x : Int), rowsFlat[i]? = some x -> W.cell? ⟨1, i, none⟩ = some (.int .i64 x)) : CRep W (fun b => b < W.heap.size) (.vp algRowsV 0 0) (.pointer (some ⟨1, 0, none⟩)) :=
 agga_vp (L := rowsFlat) rfl ⟨rfl, fun c hc => by
  simp only [List.mem_cons, List.mem_nil_iff, or_false] at hc
  rcases hc with rfl | rfl | rfl | rfl | rfl | rfl | rfl | rfl | rfl | rfl | rfl <;> rfl⟩ h rfl
end Go.Proofs.YtfkpjbbkdkcdcaaDoorA

namespace Go.Proofs.YtfkpjbbkdkcdcaaDoorA
open Go.ChangeShapes Go.WideShapes Go.ChangeAt Go.RowKit
theorem globs_alg3 {W : World} (h1 : Lib.VarReads Tryd.prog W "unicode/utf8.first" Go.Pinned.utf8First) (h2 : Lib.VarReads Tryd.prog W "unicode/utf8.acceptRanges" acceptD) (h3 : Lib.VarReads Tryd.prog W "apostille/algs.rows" rowsD) :
  ∀ g c, glVal g = some c -> CRep W (fun b => b < W.heap.size) (.vp c 0 0) (.pointer (some ⟨g, 0, none⟩)) := by
 intro g c h
 unfold glVal at h
 cases hb : Nat.beq g 3 with
 | true =>
  rw [hb] at h
  obtain rfl := beq_iff.1 hb
  cases h
  exact first_vp (cells_first h1)
 | false =>
  rw [hb] at h
  cases hb' : Nat.beq g 4 with
  | true =>
   rw [hb'] at h
   obtain rfl := beq_iff.1 hb'
   cases h
   exact accept_vp (cells_accept h2)
  | false =>
   rw [hb'] at h
   cases hr : Nat.beq g 1 with
   | true =>
    rw [hr] at h
    obtain rfl := beq_iff.1 hr
    cases h
    exact rows_vp (cells_rows h3)
   | false => rw [hr] at h; cases h
def layAlg3 (h : Array Go.Obj) : Array Go.Obj := (layDer h).modify 1 (layRowI rowsFlat)
end Go.Proofs.YtfkpjbbkdkcdcaaDoorA
