/-
  A law's contract is its row's step, where the row lists variables; data that stay; what comes in. Conditions: none.
-/
import Derived.Test.YtgkedgpgfmibhaaDoorK3
import Derived.WideKeyArgs
import Derived.Lib.LaidU8
import Derived.LaidLaws
import Derived.SizedLaws
import Derived.ChangeSlices
import Derived.Test.YtgkedgpgfmibhaaDoorT1
import Derived.Test.YtgkedgpgfmibhaaDoorProg
import Derived.Test.YtgkedgpgfmibhaaDoorRows
import Derived.Shelf.Vars
import GoSem.PinnedTables
set_option linter.unusedVariables false
set_option linter.unusedSimpArgs false
set_option maxRecDepth 100000
namespace Go.Proofs.YtgkedgpgfmibhaaDoorA
open Go.ChangeShapes Go.WideShapes Go.ChangeAt Go.RowKit

/-- nothing that was there has turned, block by block -/
def Still (W W' : World) : Prop := Stays W W' ∧ ∀ b : Nat, b < W.heap.size → W'.heap[b]? = W.heap[b]?

theorem law_preG {glob : Nat → Option CV} {W : World} {xs : List V} {vs : List Value} (hg : ∀ g c, glob g = some c → CRep W (fun b => b < W.heap.size) (.vp c 0 0) (.pointer (some ⟨g, 0, none⟩))) (h : RepL W (fun b => b < W.heap.size) (fun _ => none) (fun _ => none) xs vs) : Pre glob W (fun b => b < W.heap.size) (fun _ => none) (fun _ => False) xs [] vs := by
  refine ⟨by simp, h, ⟨fun b hb => hb, fun b hb => hb, fun p o hp => (by cases hp), fun p q o o' b x y x' y' hp => (by cases hp), fun p o b x y hp => (by cases hp), fun b hb => .inl hb⟩, hg⟩

theorem law_callsG {glob : Nat → Option CV} {P : Program} {g : FuncId} {fn : Func} {S : FSpec} (hs : Sound P glob g S) (hf : P.funcs[g]? = some fn) (hn : (fn.name == "runtime.NumGoroutine") = false) (hb : fn.body.isSome = true) {xs : List V} {vs : List Value} {W : World}
    (hg : ∀ g c, glob g = some c → CRep W (fun b => b < W.heap.size) (.vp c 0 0) (.pointer (some ⟨g, 0, none⟩)))
    (hS : S xs [] = some (.ret [.cl (.bool true)] [])) (h : RepL W (fun b => b < W.heap.size) (fun _ => none) (fun _ => none) xs vs) : Calls P g vs.toArray W fun e W' => e = .returned (.bool true) ∧ Still W W' := by
  have hr := hs xs [] _ W _ _ _ vs hS (law_preG hg h)
  have key : ∀ e W', Ends W (fun b => b < W.heap.size) (fun _ => none) (fun _ => False) [] (.ret [.cl (.bool true)] []) e W' → e = .returned (.bool true) ∧ Still W W' := fun e W' he => by
    obtain ⟨us, Im', ρ', rfl, hp, hl, hv⟩ := he
    refine ⟨?_, left_of hp.fr, fun b hb => hp.fr.block b hb fun f => f⟩
    match us, hl with
    | [u], _ =>
      have := hv 0 _ u rfl rfl
      have := this.bool
      rw [this]
      rfl
  rcases hr with ⟨_, hc⟩ | ⟨v, w', h1, _⟩
  · exact hc.mono fun e W' he => key e W' he
  · exfalso
    obtain ⟨c, hc⟩ := Option.isSome_iff_exists.1 hb
    have hn' : ¬ fn.name = "runtime.NumGoroutine" := by simpa using hn
    simp [callFunc, hf, hn', hc] at h1

/-! ### data that stay -/
theorem still_same {W W' : World} (h : Still W W') {p : MemPlace} (hp : p.block < W.heap.size) : W.sameAt W' p := by
  cases p with
  | cell b o =>
    show W'.cell? ⟨b, o, none⟩ = W.cell? ⟨b, o, none⟩
    unfold World.cell?
    rw [h.2 b hp]
  | map b => exact h.2 b hp

section
variable {H : Type} {enc : TypeId × Value → H} {P : Program}
theorem trodAll_stays {W W' : World} (hl : laidOutB P = true) {sp : Nat → Bool} : ∀ {ts : List TypeId} {vs : List Value} {ds : List (DataW H)} {ps : List MemPlace}, (∀ t ∈ ts, P.readableRec t = true ∧ t < P.types.size) → DataW.TrodAll enc P W 0 (fun _ => true) true ts vs ds ps → (∀ p ∈ ps, W.sameAt W' p) → (∀ p ∈ ps, sp p.block = true) → DataW.TrodAll enc P W' 0 sp true ts vs ds ps
  | [], vs, ds, ps, _, h, _, _ => by
    obtain ⟨rfl, rfl, rfl⟩ := trodAll_nil h
    exact trodAll_mk0
  | t :: ts, vs, ds, ps, ht, h, hs, hp => by
    obtain ⟨v, vs', d, ds', p, q, rfl, rfl, rfl, h1, h2⟩ := trodAll_cons h
    refine trodAll_cons_mk (WideElems.Trod_stays hl (ht t (by simp)).1 (ht t (by simp)).2 h1 (fun x hx => hs x (by simp [hx])) fun x hx => hp x (by simp [hx])) (trodAll_stays hl (fun t' ht' => ht t' (by simp [ht'])) h2 (fun x hx => hs x (by simp [hx])) fun x hx => hp x (by simp [hx]))

/-! ### what came in -/
theorem cell_lt {W : World} {a : Addr} {v : Value} (h : W.cell? a = some v) : a.block < W.heap.size := by
  unfold World.cell? at h
  split at h
  · rename_i h1
    exact (Array.getElem?_eq_some_iff.1 h1).1
  · cases h
/-- a slice of numbers that came in -/
theorem open_sli {W : World} {b0 : Nat} {t e : TypeId} {k : IntKind} {v : Value} {d : DataW H} {ps : List MemPlace} (ht : P.underlying t = some (.slice e)) (he : P.underlying e = some (.int k)) (hc : P.cellsOf e = 1)
    (hval : Value.okWide P W .any b0 t v) (h : DataW.Trod enc P W 0 (fun _ => true) true t v d ps) : ∃ l : List Int, CRep W (fun b => b < W.heap.size) (.sli k l) v ∧ ∀ n ∈ l, (Lit.int k n).wf = true := by
  obtain ⟨a0, len0, cap0, rfl⟩ := okWide_slice ht hval
  obtain ⟨n, h⟩ := h
  rcases open_ints ht he hc h with ⟨hcs, _⟩ | ⟨a, len, cap, zs, hcs, _, hl, _, hz, _, hcell, hw⟩
  · have hcs : [Value.slice a0 len0 cap0] = [.slice none 0 0] := hcs
    simp only [List.cons.injEq, Value.slice.injEq, and_true] at hcs
    obtain ⟨rfl, rfl, rfl⟩ := hcs
    exact ⟨[], .sli _ _ _ _ _ rfl (Nat.le_refl _) fun i n hi => by simp at hi, fun n hn => by simp at hn⟩
  · have hcs : [Value.slice a0 len0 cap0] = [.slice (some a) len cap] := hcs
    simp only [List.cons.injEq, Value.slice.injEq, and_true] at hcs
    obtain ⟨rfl, rfl, rfl⟩ := hcs
    have hz : zs.length = cap0 := hz
    refine ⟨zs.take len0, .sli _ _ _ _ _ (by simp; omega) hl fun i n hi => ?_, fun n hn => hw n (List.mem_of_mem_take hn)⟩
    rw [List.getElem?_take] at hi
    split at hi
    · rename_i hlt
      have hlz : i < zs.length := by omega
      have hx := hcell i hlz
      have e : zs.getD i 0 = n := by rw [List.getD_eq_getElem?_getD, hi]; rfl
      rw [e] at hx
      have := cell_lt hx
      rw [block_add] at this
      exact ⟨a, rfl, this, hx⟩
    · cases hi
end

/-! ### lengths -/
section
variable {H : Type} {enc : TypeId × Value → H} {P : Program}
theorem open_sliN {W : World} {b0 : Nat} {t e : TypeId} {k : IntKind} {v : Value} {d : DataW H} {ps : List MemPlace} (ht : P.underlying t = some (.slice e)) (he : P.underlying e = some (.int k)) (hc : P.cellsOf e = 1)
    (hval : Value.okWide P W .any b0 t v) (h : DataW.Trod enc P W 0 (fun _ => true) true t v d ps) : ∃ l : List Int, CRep W (fun b => b < W.heap.size) (.sli k l) v ∧ (∀ n ∈ l, (Lit.int k n).wf = true) ∧ (l = [] ∨ ∃ es sp, d = .slice es sp ∧ es.length = l.length) := by
  obtain ⟨a0, len0, cap0, rfl⟩ := okWide_slice ht hval
  obtain ⟨n, h⟩ := h
  rcases open_ints ht he hc h with ⟨hcs, _⟩ | ⟨a, len, cap, zs, hcs, _, hl, _, hz, hx, hcell, hw⟩
  · have hcs : [Value.slice a0 len0 cap0] = [.slice none 0 0] := hcs
    simp only [List.cons.injEq, Value.slice.injEq, and_true] at hcs
    obtain ⟨rfl, rfl, rfl⟩ := hcs
    exact ⟨[], .sli _ _ _ _ _ rfl (Nat.le_refl _) fun i n hi => by simp at hi, fun n hn => (by simp at hn), .inl rfl⟩
  · have hcs : [Value.slice a0 len0 cap0] = [.slice (some a) len cap] := hcs
    simp only [List.cons.injEq, Value.slice.injEq, and_true] at hcs
    obtain ⟨rfl, rfl, rfl⟩ := hcs
    have hz : zs.length = cap0 := hz
    refine ⟨zs.take len0, .sli _ _ _ _ _ (by simp; omega) hl fun i n hi => ?_, fun n hn => hw n (List.mem_of_mem_take hn), .inr ⟨_, _, (Prod.mk.inj hx).1, by unfold lits; rw [List.length_map]⟩⟩
    rw [List.getElem?_take] at hi
    split at hi
    · rename_i hlt
      have hlz : i < zs.length := by omega
      have hx := hcell i hlz
      have e : zs.getD i 0 = n := by rw [List.getD_eq_getElem?_getD, hi]; rfl
      rw [e] at hx
      have := cell_lt hx
      rw [block_add] at this
      exact ⟨a, rfl, this, hx⟩
    · cases hi
theorem sli_len {ts : List TypeId} {ds : List (DataW H)} (hw : (DataW.weightsEach P ts ds).all (· ≤ reachBytes) = true) {j : Nat} {t e : TypeId} {d : DataW H} {l : List Int} (ht : ts[j]? = some t) (hd : ds[j]? = some d) (hu : P.underlying t = some (.slice e)) (hb : 1 ≤ P.bytesOf e)
    (h : l = [] ∨ ∃ es sp, d = .slice es sp ∧ es.length = l.length) : l.length ≤ 1000000000000000 := by
  rcases h with rfl | ⟨es, sp, rfl, hl⟩
  · simp
  · have h1 := sized_slice hw ht hd hu
    have h2 := reachBytes_lt
    have h3 : es.length ≤ (es.length + sp.length) * P.bytesOf e := by
      have : (es.length + sp.length) * 1 ≤ (es.length + sp.length) * P.bytesOf e := Nat.mul_le_mul_left _ hb
      omega
    omega
end

/-! ### variables of a cell -/
theorem any_vp {W : World} {g p : Nat} {x : Value} (h : W.cell? ⟨g, 0, none⟩ = some x) (h1 : oneC x = true) (hx : anyP p x) : CRep W (fun b => b < W.heap.size) (.vp (.agg [.any p]) 0 0) (.pointer (some ⟨g, 0, none⟩)) := by
  have h0 := cell_lt h
  refine CRep.vp (.agg [.any p]) 0 0 1 [.any p] g 0 (fun _ => x) rfl trivial h0 (fun j c hj => ?_) (fun j c hj => h1) (fun j c hj => ?_)
  · match j, hj with
    | 0, _ => exact h
    | j + 1, hj => simp at hj
  · match j, hj with
    | 0, hj => cases hj; exact .any _ _ hx
    | j + 1, hj => simp at hj
/-- a listed variable that holds an error -/
theorem err_reads {P : Program} {W : World} {n nm : String} {d : DataW Unit} {g t : Nat} {ms : Array (String × TypeId)} (h : Lib.VarReads P W n (.iface nm d)) (hg : P.globalNamed n = some g) (ht : (P.globals[g]?).map (·.type) = some t) (hi : P.underlying t = some (.interface ms)) :
    ∃ u v, W.cell? ⟨g, 0, none⟩ = some (.iface u v) := by
  obtain ⟨g', t', cs, fuel, p, hg', ht', hv, hd⟩ := h
  obtain rfl := Option.some.inj (hg.symm.trans hg')
  obtain rfl := Option.some.inj (ht.symm.trans ht')
  obtain ⟨_, u, v, hcs, _, _⟩ := iface_of_trod hi hd
  refine ⟨u, v, ?_⟩
  rw [World.var?_cell hg hv 0, ← Array.getElem?_toList, hcs]
  rfl
/-! ### a witness' world: variables that hold what is listed -/
def cellsD : DataW Unit → List Value
  | .agg l => l.flatMap fun
    | .lit (.int k n) => [.int k n]
    | .agg l' => l'.flatMap fun
      | .lit (.int k n) => [.int k n]
      | _ => []
    | _ => []
  | _ => []
def layD (g : Nat) (d : DataW Unit) (h : Array Go.Obj) : Array Go.Obj := h.modify g fun
  | .cells _ t fr => .cells (cellsD d).toArray t fr
  | o => o
/-- an error of a text: tp: the pointer's type, ts: the struct's -/
def layE (tp ts : TypeId) (g : Nat) (s : List UInt8) (h : Array Go.Obj) : Array Go.Obj := (h.modify g fun
  | .cells _ t fr => .cells #[.iface tp (.pointer (some ⟨h.size, 0, none⟩))] t fr
  | o => o).push (.cells #[.string ⟨s.toArray⟩] ts (0, 0))
end Go.Proofs.YtgkedgpgfmibhaaDoorA

namespace Go.Proofs.YtgkedgpgfmibhaaDoorA
open Go.Proofs.YtgkedgpgfmibhaaDoor (Rows.laid_math_bits_deBruijn32tab Rows.laid_math_bits_deBruijn64tab Rows.laid_internal_strconv_uint64pow10 Rows.laid_unicode_utf8_acceptRanges Rows.laid_unicode_utf8_first)

theorem gSyn : Tryd.prog.globalNamed "strconv.ErrSyntax" = some 1 := by kernel_rfl
theorem gRng : Tryd.prog.globalNamed "strconv.ErrRange" = some 2 := by kernel_rfl
theorem gPow : Tryd.prog.globalNamed "internal/strconv.uint64pow10" = some 3 := by kernel_rfl
theorem tSyn : (Tryd.prog.globals[1]?).map (·.type) = some 53 := by kernel_rfl
theorem tRng : (Tryd.prog.globals[2]?).map (·.type) = some 53 := by kernel_rfl
theorem tPow : (Tryd.prog.globals[3]?).map (·.type) = some 98 := by kernel_rfl
theorem c45 : Tryd.prog.cellsOf 45 = 1 := by kernel_rfl
theorem c98 : Tryd.prog.cellsOf 98 = 20 := by kernel_rfl
theorem max_cell {W : World} (h : W.ShapedOpen Tryd.prog) : ∃ m, W.cell? ⟨0, 0, none⟩ = some (.int .i64 m) :=
  cell_of_shapedOpen_int h (of_decide_eq_true (by kernel_rfl)) (show ((begin Tryd.prog (fun _ _ => 0) default).world.heap[0]?).bind Obj.row? = some (#[.int .i64 0], 3) by kernel_rfl) rfl (by kernel_rfl) (by kernel_rfl) Tryd.underlying3
theorem cells_pow {W : World} (h : Lib.VarReads Tryd.prog W "internal/strconv.uint64pow10" (Lib.tabData .u64 pow10L)) (i : Nat) (x : Int) (hx : pow10L[i]? = some x) : W.cell? ⟨3, i, none⟩ = some (.int .u64 x) := by
  obtain ⟨g, t, cs, fuel, p, hg, ht, hv, hd⟩ := h
  obtain rfl := Option.some.inj (gPow.symm.trans hg)
  obtain rfl := Option.some.inj (tPow.symm.trans ht)
  have hcs := Lib.cells_of_tab Tryd.underlying98 Tryd.underlying45 c45 c98 hd
  rw [World.var?_cell gPow hv i, ← Array.getElem?_toList, hcs, List.getElem?_map, hx]
  rfl
theorem pow_vp {W : World} (h : ∀ (i : Nat) (x : Int), pow10L[i]? = some x → W.cell? ⟨3, i, none⟩ = some (.int .u64 x)) : CRep W (fun b => b < W.heap.size) (.vp (.aggi 20 .u64 pow10S) 0 0) (.pointer (some ⟨3, 0, none⟩)) := by
  have e : pow10S = pow10L := shut_eq _
  rw [e]
  have h0 := cell_lt (h 0 1 rfl)
  refine CRep.vp (.aggi 20 .u64 pow10L) 0 0 1 (pow10L.map (.int .u64)) 3 0 (fun i => .int .u64 (pow10L.getD i 0)) rfl rfl h0 (fun j c hj => ?_) (fun j c hj => rfl) (fun j c hj => ?_)
  · rw [List.getElem?_map] at hj
    obtain ⟨x, hx, rfl⟩ := Option.map_eq_some_iff.1 hj
    rw [Nat.zero_add, h j x hx, List.getD_eq_getElem?_getD, hx]
    rfl
  · rw [List.getElem?_map] at hj
    obtain ⟨x, hx, rfl⟩ := Option.map_eq_some_iff.1 hj
    rw [List.getD_eq_getElem?_getD, hx]
    exact .int ..
theorem globs_oid {W : World} {n1 n2 : String} {d1 d2 : DataW Unit} (hs : W.ShapedOpen Tryd.prog) (h1 : Lib.VarReads Tryd.prog W "strconv.ErrSyntax" (.iface n1 d1)) (h2 : Lib.VarReads Tryd.prog W "strconv.ErrRange" (.iface n2 d2)) (h3 : Lib.VarReads Tryd.prog W "internal/strconv.uint64pow10" (Lib.tabData .u64 pow10L)) :
    ∀ g c, glOid g = some c → CRep W (fun b => b < W.heap.size) (.vp c 0 0) (.pointer (some ⟨g, 0, none⟩)) := by
  intro g c h
  unfold glOid at h
  cases hb : Nat.beq g 0 with
  | true =>
    rw [hb] at h
    obtain rfl := beq_iff.1 hb
    cases h
    obtain ⟨m, hm⟩ := max_cell hs
    exact any_vp hm rfl ⟨m, rfl⟩
  | false =>
  rw [hb] at h
  cases hb : Nat.beq g 1 with
  | true =>
    rw [hb] at h
    obtain rfl := beq_iff.1 hb
    cases h
    obtain ⟨u, v, hm⟩ := err_reads h1 gSyn tSyn Tryd.underlying53
    exact any_vp hm rfl (.inr ⟨u, v, rfl⟩)
  | false =>
  rw [hb] at h
  cases hb : Nat.beq g 2 with
  | true =>
    rw [hb] at h
    obtain rfl := beq_iff.1 hb
    cases h
    obtain ⟨u, v, hm⟩ := err_reads h2 gRng tRng Tryd.underlying53
    exact any_vp hm rfl (.inr ⟨u, v, rfl⟩)
  | false =>
  rw [hb] at h
  cases hb : Nat.beq g 3 with
  | true =>
    rw [hb] at h
    obtain rfl := beq_iff.1 hb
    cases h
    exact pow_vp (cells_pow h3)
  | false => rw [hb] at h; cases h
theorem u32All_of {l : List Int} (h : l.length ≤ 1000000000000000) (hw : ∀ n ∈ l, (Lit.int .u32 n).wf = true) : u32All l = true := by
  unfold u32All
  rw [shut_eq, decide_eq_true h, Bool.true_and, List.all_eq_true]
  exact fun x hx => decide_eq_true (wf_u32_spec (hw x hx))
theorem bytesAll_of {l : List Int} (hw : ∀ n ∈ l, (Lit.int .u8 n).wf = true) : bytesAll l = true := by
  unfold bytesAll
  rw [shut_eq, List.all_eq_true]
  exact fun x hx => decide_eq_true (wf_u8_spec (hw x hx))
def layOid (h : Array Go.Obj) : Array Go.Obj :=
  layE 107 109 2 [118, 97, 108, 117, 101, 32, 111, 117, 116, 32, 111, 102, 32, 114, 97, 110, 103, 101] (layE 107 109 1 [105, 110, 118, 97, 108, 105, 100, 32, 115, 121, 110, 116, 97, 120]
    (layD 7 Rows.laid_math_bits_deBruijn64tab (layD 6 Rows.laid_math_bits_deBruijn32tab (layD 5 Rows.laid_unicode_utf8_acceptRanges (layD 4 Rows.laid_unicode_utf8_first (layD 3 Rows.laid_internal_strconv_uint64pow10 h))))))
end Go.Proofs.YtgkedgpgfmibhaaDoorA
