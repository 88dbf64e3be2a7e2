/-
  'Rows.FnResolveFreeVariablesSaid': the row's step, out of the law's walk.
-/
import Derived.Test.YoefewRows
import Derived.Test.YoefewFrame
import Derived.Test.YoefewW10
namespace Go.Proofs.Yoefew.fnResolveFreeVariables
open Go.ChangeShapes Go.WideShapes Go.ChangeAt Go.RowKit
open Go.ChangeMaps (open_string shut_string)
set_option linter.unusedVariables false

set_option maxRecDepth 100000 in
theorem lifted (os : Os) (started : os.Started) (H : Type) (enc : TypeId × Value → H) :
    ReturnsInHanded {} Efeg.checked os 10 .any (Rows.fnResolveFreeVariablesSpec.pre6 enc Efeg.prog Efeg.f10 Rows.fnResolveFreeVariablesRow.domain false) (Rows.fnResolveFreeVariablesSpec.post enc Efeg.prog Efeg.f10 false true false false) := by
  refine returnsInHanded_of_change (C := Efeg.checked) own started (by kernel_rfl) Efeg.func10
    (ChangeSpec.witness6 (enc := enc) (C := Efeg.checked) false ⟨#[], #[.slice none 0 0, .slice none 0 0], []⟩ 8 (by kernel_rfl) (by kernel_rfl) (by kernel_rfl) (by kernel_rfl)) ?_
  intro W base args ds gs before hval0 hW hcnd _
  have hval : ∀ (j : Nat) t v, Efeg.f10.params[j]? = some t → args[j]? = some v → Value.okWide Efeg.prog W .any base t v := hval0
  have hW' := hW
  obtain ⟨p, q, hA0, hV, rfl, hfz, hnd⟩ := hW
  have hA : DataW.TrodAll enc Efeg.prog W 0 (fun _ => true) true Efeg.f10.params.toList args.toList ds p := hA0
  rw [Efeg.params10] at hA hval
  obtain ⟨v0, vs0, d0, ds0, p0, q0, hargs, rfl, rfl, h0, r0⟩ := trodAll_cons hA
  obtain ⟨v1, vs1, d1, ds1, p1, q1, rfl, rfl, rfl, h1, r1⟩ := trodAll_cons r0
  obtain ⟨rfl, rfl, rfl⟩ := trodAll_nil r1
  obtain rfl : args = #[v0, v1] := by cases args; simp_all
  obtain ⟨rfl, rfl⟩ := trodVars_none hV
  obtain ⟨a0, len0, cap0, rfl⟩ := okWide_slice Efeg.underlying33 (hval 0 33 v0 rfl rfl)
  have k0 := h0
  have lt0 : ∀ x ∈ p0, x.block < W.heap.size := by obtain ⟨m, hm⟩ := k0; exact DataW.trod_lt m _ _ _ hm
  obtain ⟨z0, rfl, w0, e0⟩ := strs_of_trod h0
  obtain ⟨a1, len1, cap1, rfl⟩ := okWide_slice Efeg.underlying33 (hval 1 33 v1 rfl rfl)
  have k1 := h1
  have lt1 : ∀ x ∈ p1, x.block < W.heap.size := by obtain ⟨m, hm⟩ := k1; exact DataW.trod_lt m _ _ _ hm
  obtain ⟨z1, rfl, w1, e1⟩ := strs_of_trod h1
  clear hA0 hval0
  refine (walk10 (cap0 := cap0) (cap1 := cap1) w0 w1 e0 e1).mono fun e W' ⟨he, bel⟩ => ?_
  subst he
  exact ⟨_, rfl, _, _, _, [], _, [], hW', trodAll_mk1 (shut_bool Efeg.underlying4 _), (trodAll_cons_mk (Below.trod laidOut (by kernel_rfl) (of_decide_eq_true (by kernel_rfl)) k0 bel lt0) (trodAll_cons_mk (Below.trod laidOut (by kernel_rfl) (of_decide_eq_true (by kernel_rfl)) k1 bel lt1) trodAll_mk0)), rfl, bel.frame _, fun h => by cases h⟩

theorem over : Rows.fnResolveFreeVariablesRow.holds Efeg.pinned (OpenSpec.ofChange Rows.fnResolveFreeVariablesSpec) :=
  OpenClaim.holds_of_wide 10 Efeg.f10 rfl rfl rfl rfl rfl rfl rfl ⟨rfl, rfl, rfl, rfl, rfl⟩ rfl rfl rfl rfl rfl (by kernel_rfl) Efeg.func10 (by kernel_rfl)
    (of_decide_eq_true (by kernel_rfl)) (by unfold Func.isWrapper; first | (rw [if_pos (by decide +kernel)]; kernel_rfl) | (rw [if_neg (by decide +kernel)]; exact ⟨rfl, rfl⟩))
    (fun os started H enc _ => lifted os started H enc)

/-- The statement. -/
theorem proved : Rows.FnResolveFreeVariablesSaid := over
#print axioms proved
end Go.Proofs.Yoefew.fnResolveFreeVariables
