/-
  StampOrder: whatever the input, it returns true, and the input reads as it did. Conditions: none but the given statement's own.
-/
import Derived.Test.YtpdkenjphnlbdaaRows
import Derived.Test.YtpdkenjphnlbdaaT4
import Derived.Test.YtpdkenjphnlbdaaK3
set_option linter.unusedVariables false
set_option linter.unusedSimpArgs false
namespace Go.Proofs.Ytpdkenjphnlbdaa.stampOrder
open Go.ChangeShapes Go.WideShapes Go.ChangeAt Go.RowKit Go.Proofs.YtpdkenjphnlbdaaA
theorem own : ownKnob Try.prog.godebug = none := by kernel_rfl
theorem mixed : Try.prog.follows .mixedOrders = true := by kernel_rfl
theorem walk (a0 : Int) (a1 : Int) (a2 : Int) (w0 : (Lit.int .i64 a0).wf = true) (w1 : (Lit.int .i64 a1).wf = true) (w2 : (Lit.int .u16 a2).wf = true) (w : World) :
    Calls Try.prog 5 #[.int .i64 a0, .int .i64 a1, .int .u16 a2] w fun e w' => e = .returned (.bool true) ∧ Stays w w' := by
  have b0 := wf_i64_spec w0
  have b1 := wf_i64_spec w1
  have b2 := wf_u16_spec w2
  exact law_calls (soundSOrder mixed) Try.func5 rfl rfl (xs := [.cl (.int .i64 a0), .cl (.int .i64 a1), .cl (.int .u16 a2)]) (vs := [.int .i64 a0, .int .i64 a1, .int .u16 a2])
    (by
      have hp : preSOrder [.cl (.int .i64 a0), .cl (.int .i64 a1), .cl (.int .u16 a2)] [] = true := by show (stI64 a0 && stI64 a1 && decide (0 ≤ a2 ∧ a2 ≤ 65535)) = true; unfold stI64; simp only [Bool.and_eq_true, decide_eq_true_eq]; omega
      show cond (preSOrder _ _) (SSOrder _ _) none = _
      rw [hp]
      rfl)
    ⟨rfl, fun j c v hj hv => by
      match j, hj, hv with
      | 0, hj, hv => cases hj; cases hv; exact (.cl _ _ (.int .i64 a0))
      | 1, hj, hv => cases hj; cases hv; exact (.cl _ _ (.int .i64 a1))
      | 2, hj, hv => cases hj; cases hv; exact (.cl _ _ (.int .u16 a2))
      | j + 3, hj, hv => simp at hj⟩
set_option maxRecDepth 100000 in
theorem lifted (os : Os) (started : os.Started) (H : Type) (enc : TypeId × Value → H) :
    ReturnsInHanded {} Try.checked os 5 .any (Rows.stampOrderSpec.pre6 enc Try.prog Try.f5 Rows.stampOrderRow.domain false) (Rows.stampOrderSpec.post enc Try.prog Try.f5 false true false false) := by
  refine returnsInHanded_of_change (C := Try.checked) own started (by kernel_rfl) Try.func5
    (ChangeSpec.witness6 (enc := enc) (C := Try.checked) false ⟨#[], #[.int .i64 0, .int .i64 0, .int .u16 0], []⟩ 8 (by kernel_rfl) (by kernel_rfl) (by kernel_rfl) (by kernel_rfl)) ?_
  intro W base args ds gs before hval0 hW hcnd _
  have hval : ∀ (j : Nat) t v, Try.f5.params[j]? = some t → args[j]? = some v → Value.okWide Try.prog W .any base t v := hval0
  have hW' := hW
  obtain ⟨p, q, hA0, hV, rfl, hfz, hnd⟩ := hW
  have hA : DataW.TrodAll enc Try.prog W 0 (fun _ => true) true Try.f5.params.toList args.toList ds p := hA0
  rw [Try.params5] at hA hval
  obtain ⟨v0, vs0, d0, ds0, p0, q0, hargs, rfl, rfl, h0, r0⟩ := trodAll_cons hA
  obtain ⟨v1, vs1, d1, ds1, p1, q1, rfl, rfl, rfl, h1, r1⟩ := trodAll_cons r0
  obtain ⟨v2, vs2, d2, ds2, p2, q2, rfl, rfl, rfl, h2, r2⟩ := trodAll_cons r1
  obtain ⟨rfl, rfl, rfl⟩ := trodAll_nil r2
  obtain rfl : args = #[v0, v1, v2] := by cases args; simp_all
  obtain ⟨rfl, rfl⟩ := trodVars_none hV
  obtain ⟨a0, rfl, rfl, rfl, w0⟩ := open_int Try.underlying2 (hval 0 2 v0 rfl rfl) h0
  obtain ⟨a1, rfl, rfl, rfl, w1⟩ := open_int Try.underlying2 (hval 1 2 v1 rfl rfl) h1
  obtain ⟨a2, rfl, rfl, rfl, w2⟩ := open_int Try.underlying32 (hval 2 32 v2 rfl rfl) h2
  clear hA0 hval0
  simp only [List.append_nil] at hW'
  refine (walk a0 a1 a2 w0 w1 w2 W).mono fun e W' ⟨he, hg⟩ => ?_
  subst he
  exact ⟨_, rfl, law_post (pa := []) (pv := []) hW' (fun _ _ _ => (trodAll_cons_mk (shut_bool Try.underlying4 _) trodAll_mk0)) (fun sp _ => (trodAll_cons_mk (shut_int Try.underlying2 w0) (trodAll_cons_mk (shut_int Try.underlying2 w1) (trodAll_cons_mk (shut_int Try.underlying32 w2) trodAll_mk0)))) (fun _ _ => rfl) rfl
    hg (ok_one (by kernel_rfl) rfl (okWide_bool_mk Try.underlying4 _))⟩
theorem over : Rows.stampOrderRow.holds Try.pinned (OpenSpec.ofChange Rows.stampOrderSpec) :=
  OpenClaim.holds_of_wide 5 Try.f5 rfl rfl rfl rfl rfl rfl rfl ⟨rfl, rfl, rfl, rfl, rfl⟩ rfl rfl rfl rfl rfl (by kernel_rfl) Try.func5 (by kernel_rfl)
    (of_decide_eq_true (by kernel_rfl)) (by unfold Func.isWrapper; first | (rw [if_pos (by decide +kernel)]; kernel_rfl) | (rw [if_neg (by decide +kernel)]; exact ⟨rfl, rfl⟩))
    (fun os started H enc _ => lifted os started H enc)
/-- the given statement -/
theorem proved : Rows.StampOrderSaid := over
end Go.Proofs.Ytpdkenjphnlbdaa.stampOrder

