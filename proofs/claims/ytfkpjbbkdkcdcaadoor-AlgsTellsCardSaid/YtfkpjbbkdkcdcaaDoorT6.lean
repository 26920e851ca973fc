/-
 A law's contract is its row's step, where the row lists variables; data that stay; what comes in. Conditions: none.
-/
import Derived.Test.YtfkpjbbkdkcdcaaDoorK3
import Derived.WideKeyArgs
import Derived.Lib.LaidU8
import Derived.LaidLaws
import Derived.SizedLaws
import Derived.ChangeSlices
import Derived.Test.YtfkpjbbkdkcdcaaDoorT5
import Derived.ChangeArms
import GoSem.PinnedTables
set_option linter.unusedVariables false
set_option linter.unusedSimpArgs false
set_option maxRecDepth 100000
namespace Go.Proofs.YtfkpjbbkdkcdcaaDoorA
open Go.ChangeShapes Go.WideShapes Go.ChangeAt Go.RowKit

/-- nothing that was there has turned, block by block -/
def Still (W W' : World) : Prop := Stays W W' /\ ∀ b : Nat, b < W.heap.size -> W'.heap[b]? = W.heap[b]?

theorem law_preG {glob : Nat -> Option CV} {W : World} {xs : List V} {vs : List Value} (hg : ∀ g c, glob g = some c -> CRep W (fun b => b < W.heap.size) (.vp c 0 0) (.pointer (some ⟨g, 0, none⟩))) (h : RepL W (fun b => b < W.heap.size) (fun _ => none) (fun _ => none) xs vs) : Pre glob W (fun b => b < W.heap.size) (fun _ => none) (fun _ => False) xs [] vs := by
 refine ⟨by simp, h, ⟨fun b hb => hb, fun b hb => hb, fun p o hp => (by cases hp), fun p q o o' b x y x' y' hp => (by cases hp), fun p o b x y hp => (by cases hp), fun b hb => .inl hb⟩, hg⟩

theorem law_callsG {glob : Nat -> Option CV} {P : Program} {g : FuncId} {fn : Func} {S : FSpec} (hs : Sound P glob g S) (hf : P.funcs[g]? = some fn) (hn : (fn.name == "runtime.NumGoroutine") = false) (hb : fn.body.isSome = true) {xs : List V} {vs : List Value} {W : World}
  (hg : ∀ g c, glob g = some c -> CRep W (fun b => b < W.heap.size) (.vp c 0 0) (.pointer (some ⟨g, 0, none⟩)))
  (hS : S xs [] = some (.ret [.cl (.bool true)] [])) (h : RepL W (fun b => b < W.heap.size) (fun _ => none) (fun _ => none) xs vs) : Calls P g vs.toArray W fun e W' => e = .returned (.bool true) /\ Still W W' := by
 have hr := hs xs [] _ W _ _ _ vs hS (law_preG hg h)
 have key : ∀ e W', Ends W (fun b => b < W.heap.size) (fun _ => none) (fun _ => False) [] (.ret [.cl (.bool true)] []) e W' -> e = .returned (.bool true) /\ Still W W' := fun e W' he => by
  obtain ⟨us, Im', ρ', rfl, hp, hl, hv⟩ := he
  refine ⟨?_, left_of hp.fr, fun b hb => hp.fr.block b hb fun f => f⟩
  match us, hl with
  | [u], _ =>
   have := hv 0 _ u rfl rfl
   have := this.bool
   rw [this]
   rfl
 rcases hr with ⟨_, hc⟩ | ⟨v, w', h1, _⟩
 ·exact hc.mono fun e W' he => key e W' he
 ·exfalso
  obtain ⟨c, hc⟩ := Option.isSome_iff_exists.1 hb
  have hn' : ¬ fn.name = "runtime.NumGoroutine" := by simpa using hn
  simp [callFunc, hf, hn', hc] at h1

/-! ### data that stay -/
theorem still_same {W W' : World} (h : Still W W') {p : MemPlace} (hp : p.block < W.heap.size) : W.sameAt W' p := by
 cases p with
 | cell b o =>
  show W'.cell? ⟨b, o, none⟩ = W.cell? ⟨b, o, none⟩
  unfold World.cell?
  rw [h.2 b hp]
 | map b => exact h.2 b hp

section
variable {H : Type} {enc : TypeId × Value -> H} {P : Program}
theorem trodAll_stays {W W' : World} (hl : laidOutB P = true) {sp : Nat -> Bool} : ∀ {ts : List TypeId} {vs : List Value} {ds : List (DataW H)} {ps : List MemPlace}, (∀ t ∈ ts, P.readableRec t = true /\ t < P.types.size) -> DataW.TrodAll enc P W 0 (fun _ => true) true ts vs ds ps -> (∀ p ∈ ps, W.sameAt W' p) -> (∀ p ∈ ps, sp p.block = true) -> DataW.TrodAll enc P W' 0 sp true ts vs ds ps
 | [], vs, ds, ps, _, h, _, _ => by
  obtain ⟨rfl, rfl, rfl⟩ := trodAll_nil h
  exact trodAll_mk0
 | t :: ts, vs, ds, ps, ht, h, hs, hp => by
  obtain ⟨v, vs', d, ds', p, q, rfl, rfl, rfl, h1, h2⟩ := trodAll_cons h
  refine trodAll_cons_mk (WideElems.Trod_stays hl (ht t (by simp)).1 (ht t (by simp)).2 h1 (fun x hx => hs x (by simp [hx])) fun x hx => hp x (by simp [hx])) (trodAll_stays hl (fun t' ht' => ht t' (by simp [ht'])) h2 (fun x hx => hs x (by simp [hx])) fun x hx => hp x (by simp [hx]))

/-! ### what came in -/
theorem cell_lt {W : World} {a : Addr} {v : Value} (h : W.cell? a = some v) : a.block < W.heap.size := by
 unfold World.cell? at h
 split at h
 ·rename_i h1
  exact (Array.getElem?_eq_some_iff.1 h1).1
 ·cases h
/-- a slice of numbers that came in -/
theorem open_sli {W : World} {b0 : Nat} {t e : TypeId} {k : IntKind} {v : Value} {d : DataW H} {ps : List MemPlace} (ht : P.underlying t = some (.slice e)) (he : P.underlying e = some (.int k)) (hc : P.cellsOf e = 1)
  (hval : Value.okWide P W .any b0 t v) (h : DataW.Trod enc P W 0 (fun _ => true) true t v d ps) : ∃ l : List Int, CRep W (fun b => b < W.heap.size) (.sli k l) v /\ ∀ n ∈ l, (Lit.int k n).wf = true := by
 obtain ⟨a0, len0, cap0, rfl⟩ := okWide_slice ht hval
 obtain ⟨n, h⟩ := h
 rcases open_ints ht he hc h with ⟨hcs, _⟩ | ⟨a, len, cap, zs, hcs, _, hl, _, hz, _, hcell, hw⟩
 ·have hcs : [Value.slice a0 len0 cap0] = [.slice none 0 0] := hcs
  simp only [List.cons.injEq, Value.slice.injEq, and_true] at hcs
  obtain ⟨rfl, rfl, rfl⟩ := hcs
  exact ⟨[], .sli _ _ _ _ _ rfl (Nat.le_refl _) fun i n hi => by simp at hi, fun n hn => by simp at hn⟩
 ·have hcs : [Value.slice a0 len0 cap0] = [.slice (some a) len cap] := hcs
  simp only [List.cons.injEq, Value.slice.injEq, and_true] at hcs
  obtain ⟨rfl, rfl, rfl⟩ := hcs
  have hz : zs.length = cap0 := hz
  refine ⟨zs.take len0, .sli _ _ _ _ _ (by simp; omega) hl fun i n hi => ?_, fun n hn => hw n (List.mem_of_mem_take hn)⟩
  rw [List.getElem?_take] at hi
  split at hi
  ·rename_i hlt
   have hlz : i < zs.length := by omega
   have hx := hcell i hlz
   have e : zs.getD i 0 = n := by rw [List.getD_eq_getElem?_getD, hi]; rfl
   rw [e] at hx
   have := cell_lt hx
   rw [block_add] at this
   exact ⟨a, rfl, this, hx⟩
  ·cases hi
end

/-! ### lengths -/
section
variable {H : Type} {enc : TypeId × Value -> H} {P : Program}
end

/-! ### variables of a cell -/
/-! ### a witness' world: variables that hold what is listed -/
end Go.Proofs.YtfkpjbbkdkcdcaaDoorA

namespace Go.Proofs.YtfkpjbbkdkcdcaaDoorA
open Go.ChangeShapes Go.WideShapes Go.ChangeAt Go.RowKit
/-! ### the tables -/
theorem first_vp {W : World} (h : ∀ (i : Nat) (x : Int), u8FirstC[i]? = some x -> W.cell? ⟨3, i, none⟩ = some (.int .u8 x)) : CRep W (fun b => b < W.heap.size) (.vp (.aggi 256 .u8 u8First) 0 0) (.pointer (some ⟨3, 0, none⟩)) := by
 have e : u8First = u8FirstC := shut_eq _
 rw [e]
 have h0 := cell_lt (h 0 240 rfl)
 refine CRep.vp (.aggi 256 .u8 u8FirstC) 0 0 1 (u8FirstC.map (.int .u8)) 3 0 (fun i => .int .u8 (u8FirstC.getD i 0)) rfl rfl h0 (fun j c hj => ?_) (fun j c hj => rfl) (fun j c hj => ?_)
 ·rw [List.getElem?_map] at hj
  obtain ⟨x, hx, rfl⟩ := Option.map_eq_some_iff.1 hj
  rw [Nat.zero_add, h j x hx, List.getD_eq_getElem?_getD, hx]
  rfl
 ·rw [List.getElem?_map] at hj
  obtain ⟨x, hx, rfl⟩ := Option.map_eq_some_iff.1 hj
  rw [List.getD_eq_getElem?_getD, hx]
  exact .int ..
def acceptL : List Int := [128, 191, 160, 191, 128, 159, 144, 191, 128, 143] ++ List.replicate 22 0
theorem accept_vp {W : World} (h : ∀ (i : Nat) (x : Int), acceptL[i]? = some x -> W.cell? ⟨4, i, none⟩ = some (.int .u8 x)) : CRep W (fun b => b < W.heap.size) (.vp (.agga 16 2 u8Accept) 0 0) (.pointer (some ⟨4, 0, none⟩)) := by
 have e : u8Accept = u8AcceptC := shut_eq _
 rw [e]
 have h0 := cell_lt (h 0 128 rfl)
 have ef : u8AcceptC.flatMap cell1 = acceptL.map (.int .u8) := rfl
 refine CRep.vp (.agga 16 2 u8AcceptC) 0 0 2 (acceptL.map (.int .u8)) 4 0 (fun i => .int .u8 (acceptL.getD i 0)) (by rw [<- ef]; rfl) ⟨rfl, fun c hc => ?_⟩ h0 (fun j c hj => ?_) (fun j c hj => rfl) (fun j c hj => ?_)
 ·unfold u8AcceptC at hc
  obtain ⟨p, _, rfl⟩ := List.mem_map.1 hc
  rfl
 ·rw [List.getElem?_map] at hj
  obtain ⟨x, hx, rfl⟩ := Option.map_eq_some_iff.1 hj
  rw [Nat.zero_add, h j x hx, List.getD_eq_getElem?_getD, hx]
  rfl
 ·rw [List.getElem?_map] at hj
  obtain ⟨x, hx, rfl⟩ := Option.map_eq_some_iff.1 hj
  rw [List.getD_eq_getElem?_getD, hx]
  exact .int ..
def acceptD : DataW Unit := .agg [.agg [.lit (.int .u8 128), .lit (.int .u8 191)], .agg [.lit (.int .u8 160), .lit (.int .u8 191)], .agg [.lit (.int .u8 128), .lit (.int .u8 159)], .agg [.lit (.int .u8 144), .lit (.int .u8 191)], .agg [.lit (.int .u8 128), .lit (.int .u8 143)], .agg [.lit (.int .u8 0), .lit (.int .u8 0)], .agg [.lit (.int .u8 0), .lit (.int .u8 0)], .agg [.lit (.int .u8 0), .lit (.int .u8 0)], .agg [.lit (.int .u8 0), .lit (.int .u8 0)], .agg [.lit (.int .u8 0), .lit (.int .u8 0)], .agg [.lit (.int .u8 0), .lit (.int .u8 0)], .agg [.lit (.int .u8 0), .lit (.int .u8 0)], .agg [.lit (.int .u8 0), .lit (.int .u8 0)], .agg [.lit (.int .u8 0), .lit (.int .u8 0)], .agg [.lit (.int .u8 0), .lit (.int .u8 0)], .agg [.lit (.int .u8 0), .lit (.int .u8 0)]]
theorem gFirst : Tryd.prog.globalNamed "unicode/utf8.first" = some 3 := by kernel_rfl
theorem gAccept : Tryd.prog.globalNamed "unicode/utf8.acceptRanges" = some 4 := by kernel_rfl
theorem tFirst : (Tryd.prog.globals[3]?).map (·.type) = some 182 := by kernel_rfl
theorem tAccept : (Tryd.prog.globals[4]?).map (·.type) = some 185 := by kernel_rfl
theorem c5 : Tryd.prog.cellsOf 5 = 1 := by kernel_rfl
theorem c182 : Tryd.prog.cellsOf 182 = 256 := by kernel_rfl
theorem c184 : Tryd.prog.cellsOf 184 = 2 := by kernel_rfl
theorem pinned_eq : Go.Pinned.utf8First = Lib.tabData .u8 u8FirstC := by kernel_rfl
theorem cells_first {W : World} (h : Lib.VarReads Tryd.prog W "unicode/utf8.first" Go.Pinned.utf8First) (i : Nat) (x : Int) (hx : u8FirstC[i]? = some x) : W.cell? ⟨3, i, none⟩ = some (.int .u8 x) := by
 obtain ⟨g, t, cs, fuel, p, hg, ht, hv, hd⟩ := h
 obtain rfl := Option.some.inj (gFirst.symm.trans hg)
 obtain rfl := Option.some.inj (tFirst.symm.trans ht)
 rw [pinned_eq] at hd
 have hcs := Lib.cells_of_tab Tryd.underlying182 Tryd.underlying5 c5 c182 hd
 rw [World.var?_cell gFirst hv i, <- Array.getElem?_toList, hcs, List.getElem?_map, hx]
 rfl
theorem cells_accept {W : World} (h : Lib.VarReads Tryd.prog W "unicode/utf8.acceptRanges" acceptD) (i : Nat) (x : Int) (hx : acceptL[i]? = some x) : W.cell? ⟨4, i, none⟩ = some (.int .u8 x) := by
 obtain ⟨g, t, cs, fuel, p, hg, ht, hv, hd⟩ := h
 obtain rfl := Option.some.inj (gAccept.symm.trans hg)
 obtain rfl := Option.some.inj (tAccept.symm.trans ht)
 have hi : i < 32 := (List.getElem?_eq_some_iff.1 hx).1
 rw [World.var?_cell gAccept hv i, <- Array.getElem?_toList]
 obtain ⟨fuel', d, q, hdd, hf⟩ := Lib.array_elem Tryd.underlying185 hd (i / 2) (by omega)
 rw [c184] at hf
 have hz : d = .agg ([acceptL.getD (2 * (i / 2)) 0, acceptL.getD (2 * (i / 2) + 1) 0].map fun z => .lit (.int .u8 z)) := by
  have hall : ∀ j : Fin 16, ([.agg [.lit (.int .u8 128), .lit (.int .u8 191)], .agg [.lit (.int .u8 160), .lit (.int .u8 191)], .agg [.lit (.int .u8 128), .lit (.int .u8 159)], .agg [.lit (.int .u8 144), .lit (.int .u8 191)], .agg [.lit (.int .u8 128), .lit (.int .u8 143)], .agg [.lit (.int .u8 0), .lit (.int .u8 0)], .agg [.lit (.int .u8 0), .lit (.int .u8 0)], .agg [.lit (.int .u8 0), .lit (.int .u8 0)], .agg [.lit (.int .u8 0), .lit (.int .u8 0)], .agg [.lit (.int .u8 0), .lit (.int .u8 0)], .agg [.lit (.int .u8 0), .lit (.int .u8 0)], .agg [.lit (.int .u8 0), .lit (.int .u8 0)], .agg [.lit (.int .u8 0), .lit (.int .u8 0)], .agg [.lit (.int .u8 0), .lit (.int .u8 0)], .agg [.lit (.int .u8 0), .lit (.int .u8 0)], .agg [.lit (.int .u8 0), .lit (.int .u8 0)]] : List (DataW Unit))[j.val]? = some (.agg ([acceptL.getD (2 * j.val) 0, acceptL.getD (2 * j.val + 1) 0].map fun z => .lit (.int .u8 z))) := by
   intro ⟨j, hj⟩
   have hj' : j = 0 \/ j = 1 \/ j = 2 \/ j = 3 \/ j = 4 \/ j = 5 \/ j = 6 \/ j = 7 \/ j = 8 \/ j = 9 \/ j = 10 \/ j = 11 \/ j = 12 \/ j = 13 \/ j = 14 \/ j = 15 := by omega
   rcases hj' with rfl | rfl | rfl | rfl | rfl | rfl | rfl | rfl | rfl | rfl | rfl | rfl | rfl | rfl | rfl | rfl <;> rfl
  have := hall ⟨i / 2, by omega⟩
  exact Option.some.inj (hdd.symm.trans this)
 rw [hz] at hf
 have hcs := Lib.ints_of_struct Tryd.underlying184 (fun j f hj => by
  match j, hj with
  | 0, hj => cases hj; exact ⟨Tryd.underlying5, rfl, c5⟩
  | 1, hj => cases hj; exact ⟨Tryd.underlying5, rfl, c5⟩
  | j + 2, hj => simp at hj) c184 hf
 have hget := congrArg (·[i % 2]?) hcs
 simp only [List.getElem?_take, List.getElem?_drop] at hget
 rw [if_pos (by omega), show i / 2 * 2 + i % 2 = i by omega] at hget
 rw [hget]
 have hxd : acceptL.getD i 0 = x := by rw [List.getD_eq_getElem?_getD, hx]; rfl
 rcases Nat.mod_two_eq_zero_or_one i with h2 | h2
 ·rw [h2]
  show some (Value.int .u8 (acceptL.getD (2 * (i / 2)) 0)) = _
  rw [show 2 * (i / 2) = i by omega, hxd]
 ·rw [h2]
  show some (Value.int .u8 (acceptL.getD (2 * (i / 2) + 1) 0)) = _
  rw [show 2 * (i / 2) + 1 = i by omega, hxd]
/-- the tables laid, for a witness -/
def layRow (l : List Int) : Go.Obj -> Go.Obj
 | .cells _ t fr => .cells (l.map (Value.int .u8)).toArray t fr
 | o => o
def layDer (h : Array Go.Obj) : Array Go.Obj := (h.modify 3 (layRow u8FirstC)).modify 4 (layRow acceptL)
section
variable {H : Type} {enc : TypeId × Value -> H} {P : Program}
end
theorem c3 : Tryd.prog.cellsOf 3 = 1 := by kernel_rfl
end Go.Proofs.YtfkpjbbkdkcdcaaDoorA

namespace Go.Proofs.YtfkpjbbkdkcdcaaDoorA
open Go.ChangeShapes Go.WideShapes Go.ChangeAt Go.RowKit
theorem u32Any_of {l : List Int} (hw : ∀ n ∈ l, (Lit.int .u32 n).wf = true) : u32Any l = true := by
 unfold u32Any; rw [shut_eq, List.all_eq_true]; exact fun x hx => decide_eq_true (wf_u32_spec (hw x hx))
end Go.Proofs.YtfkpjbbkdkcdcaaDoorA

namespace Go.Proofs.YtfkpjbbkdkcdcaaDoorA
open Go.ChangeShapes Go.WideShapes Go.ChangeAt Go.RowKit
theorem agga_vp {W : World} {g m es : Nat} {k : IntKind} {l : List CV} {L : List Int} {z : Int} (hfl : rowOfC (.agga m es l) = some (es, L.map (CV.int k))) (hu : uni (.agga m es l)) (h : ∀ (i : Nat) (x : Int), L[i]? = some x -> W.cell? ⟨g, i, none⟩ = some (.int k x)) (h0 : L[0]? = some z) :
  CRep W (fun b => b < W.heap.size) (.vp (.agga m es l) 0 0) (.pointer (some ⟨g, 0, none⟩)) := by
 have hlt := cell_lt (h 0 z h0)
 have := CRep.vp (w := W) (Im := fun b => b < W.heap.size) (.agga m es l) 0 0 es (L.map (.int k)) g 0 (fun i => .int k (L.getD i 0)) hfl hu hlt (fun j c hj => ?_) (fun j c hj => rfl) (fun j c hj => ?_)
 ·simpa using this
 ·rw [List.getElem?_map] at hj
  obtain ⟨x, hx, rfl⟩ := Option.map_eq_some_iff.1 hj
  rw [Nat.zero_add, h j x hx, List.getD_eq_getElem?_getD, hx]
  rfl
 ·rw [List.getElem?_map] at hj
  obtain ⟨x, hx, rfl⟩ := Option.map_eq_some_iff.1 hj
  rw [List.getD_eq_getElem?_getD, hx]
  exact .int ..
def algRowsLL : List (List Int) := [[1, 3, 1, 0, 1, 1], [4, 2, 1, 0, 8, 2], [6, 2, 1, 0, 11, 1], [11, 3, 2, 1, 17, 1], [33, 2, 2, 5, 1, 1], [41, 1, 2, 4, 17, 1], [51, 3, 3, 2, 1, 1], [61, 3, 4, 4, 28, 1], [71, 3, 5, 3, 5, 20], [81, 3, 6, 3, 2, 20], [91, 3, 7, 3, 6, 20]]
def rowsFlat : List Int := algRowsLL.flatten
def kindsFlat : List Int := slhKindsL.flatten
def rowsD {H : Type} : DataW H := .agg (algRowsLL.map fun l => .agg (l.map fun z => .lit (.int .i64 z)))
def kindsD {H : Type} : DataW H := .agg (slhKindsL.map fun l => .agg (l.map fun z => .lit (.int .i64 z)))
theorem gRows : Tryd.prog.globalNamed "apostille/algs.rows" = some 1 := by kernel_rfl
theorem gKinds : Tryd.prog.globalNamed "apostille/slh.kinds" = some 0 := by kernel_rfl
theorem tRows : (Tryd.prog.globals[1]?).map (·.type) = some 159 := by kernel_rfl
theorem tKinds : (Tryd.prog.globals[0]?).map (·.type) = some 155 := by kernel_rfl
theorem c158 : Tryd.prog.cellsOf 158 = 6 := by kernel_rfl
theorem c154 : Tryd.prog.cellsOf 154 = 5 := by kernel_rfl
theorem cI3 : Tryd.prog.cellsOf 3 = 1 := by kernel_rfl
theorem flat_at {ls : List (List Int)} {m : Nat} (hm : ∀ l ∈ ls, l.length = m) (hpos : 0 < m) : ∀ (i : Nat) (x : Int), ls.flatten[i]? = some x -> ∃ l, ls[i / m]? = some l /\ l[i % m]? = some x := by
 induction ls with
 | nil => intro i x h; simp at h
 | cons a r ih =>
  intro i x h
  have ha := hm a (by simp)
  rw [List.flatten_cons] at h
  rcases Nat.lt_or_ge i m with e | e
  ·rw [List.getElem?_append_left (by omega)] at h
   exact ⟨a, by rw [Nat.div_eq_of_lt e]; rfl, by rw [Nat.mod_eq_of_lt e]; exact h⟩
  ·rw [List.getElem?_append_right (by omega), ha] at h
   obtain ⟨l, h1, h2⟩ := ih (fun l hl => hm l (by simp [hl])) (i - m) x h
   obtain ⟨q, rfl⟩ : ∃ q, i = q + m := ⟨i - m, by omega⟩
   rw [Nat.add_sub_cancel] at h1 h2
   exact ⟨l, by rw [Nat.add_div_right _ hpos]; exact h1, by rw [Nat.add_mod_right]; exact h2⟩
theorem cells_rows {W : World} (h : Lib.VarReads Tryd.prog W "apostille/algs.rows" rowsD) (i : Nat) (x : Int) (hx : rowsFlat[i]? = some x) : W.cell? ⟨1, i, none⟩ = some (.int .i64 x) := by
 obtain ⟨g, t, cs, fuel, p, hg, ht, hv, hd⟩ := h
 obtain rfl := Option.some.inj (gRows.symm.trans hg)
 obtain rfl := Option.some.inj (tRows.symm.trans ht)
 obtain ⟨l, hl, hlx⟩ := flat_at (m := 6) (by decide) (by omega) i x hx
 have hi : i / 6 < 11 := (List.getElem?_eq_some_iff.1 hl).1
 rw [World.var?_cell gRows hv i, <- Array.getElem?_toList]
 obtain ⟨fuel', d, q, hdd, hf⟩ := Lib.array_elem Tryd.underlying159 hd (i / 6) hi
 rw [c158] at hf
 rw [List.getElem?_map, hl] at hdd
 obtain rfl := Option.some.inj hdd
 have hcs := Lib.ints_of_struct Tryd.underlying158 (fun j f hj => by
  match j, hj with
  | 0, hj => cases hj; exact ⟨Tryd.underlying3, rfl, cI3⟩
  | 1, hj => cases hj; exact ⟨Tryd.underlying3, rfl, cI3⟩
  | 2, hj => cases hj; exact ⟨Tryd.underlying3, rfl, cI3⟩
  | 3, hj => cases hj; exact ⟨Tryd.underlying3, rfl, cI3⟩
  | 4, hj => cases hj; exact ⟨Tryd.underlying3, rfl, cI3⟩
  | 5, hj => cases hj; exact ⟨Tryd.underlying3, rfl, cI3⟩
  | j + 6, hj => simp at hj) c158 hf
 have hget := congrArg (·[i % 6]?) hcs
 simp only [List.getElem?_take, List.getElem?_drop] at hget
 rw [if_pos (by omega), show i / 6 * 6 + i % 6 = i by omega] at hget
 rw [hget, List.getElem?_map, hlx]
 rfl
theorem cells_kinds {W : World} (h : Lib.VarReads Tryd.prog W "apostille/slh.kinds" kindsD) (i : Nat) (x : Int) (hx : kindsFlat[i]? = some x) : W.cell? ⟨0, i, none⟩ = some (.int .i64 x) := by
 obtain ⟨g, t, cs, fuel, p, hg, ht, hv, hd⟩ := h
 obtain rfl := Option.some.inj (gKinds.symm.trans hg)
 obtain rfl := Option.some.inj (tKinds.symm.trans ht)
 obtain ⟨l, hl, hlx⟩ := flat_at (m := 5) (by decide) (by omega) i x hx
 have hi : i / 5 < 6 := (List.getElem?_eq_some_iff.1 hl).1
 rw [World.var?_cell gKinds hv i, <- Array.getElem?_toList]
 obtain ⟨fuel', d, q, hdd, hf⟩ := Lib.array_elem Tryd.underlying155 hd (i / 5) hi
 rw [c154] at hf
 rw [List.getElem?_map, hl] at hdd
 obtain rfl := Option.some.inj hdd
 have hcs := Lib.cells_of_tab Tryd.underlying154 Tryd.underlying3 cI3 c154 hf
 have hget := congrArg (·[i % 5]?) hcs
 simp only [List.getElem?_take, List.getElem?_drop] at hget
 rw [if_pos (by omega), show i / 5 * 5 + i % 5 = i by omega] at hget
 rw [hget, List.getElem?_map, hlx]
 rfl
def layRowI (l : List Int) : Go.Obj -> Go.Obj
 | .cells _ t fr => .cells (l.map (Value.int .i64)).toArray t fr
 | o => o
def layAlg (h : Array Go.Obj) : Array Go.Obj := ((layDer h).modify 0 (layRowI kindsFlat)).modify 1 (layRowI rowsFlat)
theorem rows_vp {W : World} (h : ∀ (i : Nat) (x : Int), rowsFlat[i]? = some x -> W.cell? ⟨1, i, none⟩ = some (.int .i64 x)) : CRep W (fun b => b < W.heap.size) (.vp algRowsV 0 0) (.pointer (some ⟨1, 0, none⟩)) :=
 agga_vp (L := rowsFlat) rfl ⟨rfl, fun c hc => by
  simp only [List.mem_cons, List.mem_nil_iff, or_false] at hc
  rcases hc with rfl | rfl | rfl | rfl | rfl | rfl | rfl | rfl | rfl | rfl | rfl <;> rfl⟩ h rfl
theorem kinds_vp {W : World} (h : ∀ (i : Nat) (x : Int), kindsFlat[i]? = some x -> W.cell? ⟨0, i, none⟩ = some (.int .i64 x)) : CRep W (fun b => b < W.heap.size) (.vp slhKindsV 0 0) (.pointer (some ⟨0, 0, none⟩)) := by
 unfold slhKindsV
 rw [shut_eq]
 exact agga_vp (L := kindsFlat) rfl ⟨rfl, fun c hc => by
  unfold slhKindsL at hc
  simp only [List.map_cons, List.map_nil, List.mem_cons, List.mem_nil_iff, or_false] at hc
  rcases hc with rfl | rfl | rfl | rfl | rfl | rfl <;> rfl⟩ h rfl
theorem globs_alg {W : World} (h1 : Lib.VarReads Tryd.prog W "unicode/utf8.first" Go.Pinned.utf8First) (h2 : Lib.VarReads Tryd.prog W "unicode/utf8.acceptRanges" acceptD) (h3 : Lib.VarReads Tryd.prog W "apostille/algs.rows" rowsD) (h4 : Lib.VarReads Tryd.prog W "apostille/slh.kinds" kindsD) :
  ∀ g c, glVal g = some c -> CRep W (fun b => b < W.heap.size) (.vp c 0 0) (.pointer (some ⟨g, 0, none⟩)) := by
 intro g c h
 unfold glVal at h
 cases hb : Nat.beq g 3 with
 | true =>
  rw [hb] at h
  obtain rfl := beq_iff.1 hb
  cases h
  exact first_vp (cells_first h1)
 | false =>
  rw [hb] at h
  cases hb' : Nat.beq g 4 with
  | true =>
   rw [hb'] at h
   obtain rfl := beq_iff.1 hb'
   cases h
   exact accept_vp (cells_accept h2)
  | false =>
   rw [hb'] at h
   cases hk : Nat.beq g 0 with
   | true =>
    rw [hk] at h
    obtain rfl := beq_iff.1 hk
    cases h
    exact kinds_vp (cells_kinds h4)
   | false =>
    rw [hk] at h
    cases hr : Nat.beq g 1 with
    | true =>
     rw [hr] at h
     obtain rfl := beq_iff.1 hr
     cases h
     exact rows_vp (cells_rows h3)
    | false => rw [hr] at h; cases h
end Go.Proofs.YtfkpjbbkdkcdcaaDoorA
