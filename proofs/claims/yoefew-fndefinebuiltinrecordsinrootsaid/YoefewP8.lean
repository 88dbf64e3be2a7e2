/-
  'Rows.FnDefineBuiltinRecordsInRootSaid': the row's step, out of the law's walk.
-/
import Derived.Test.YoefewRows
import Derived.Test.YoefewFrame8
import Derived.Test.YoefewW8
namespace Go.Proofs.Yoefew.fnDefineBuiltinRecordsInRoot
open Go.ChangeShapes Go.WideShapes Go.ChangeAt Go.RowKit
open Go.ChangeMaps (open_string shut_string)
set_option linter.unusedVariables false

set_option maxRecDepth 100000 in
theorem lifted (os : Os) (started : os.Started) (H : Type) (enc : TypeId × Value → H) :
    ReturnsInHanded {} Efeg.checked os 8 .any (Rows.fnDefineBuiltinRecordsInRootSpec.pre6 enc Efeg.prog Efeg.f8 Rows.fnDefineBuiltinRecordsInRootRow.domain false) (Rows.fnDefineBuiltinRecordsInRootSpec.post enc Efeg.prog Efeg.f8 false true false false) := by
  refine returnsInHanded_of_change (C := Efeg.checked) own started (by kernel_rfl) Efeg.func8
    (ChangeSpec.witness6 (enc := enc) (C := Efeg.checked) false ⟨#[], #[.slice none 0 0], []⟩ 8 (by kernel_rfl) (by kernel_rfl) (by kernel_rfl) (by kernel_rfl)) ?_
  intro W base args ds gs before hval0 hW hcnd _
  have hval : ∀ (j : Nat) t v, Efeg.f8.params[j]? = some t → args[j]? = some v → Value.okWide Efeg.prog W .any base t v := hval0
  have hW' := hW
  obtain ⟨p, q, hA0, hV, rfl, hfz, hnd⟩ := hW
  have hA : DataW.TrodAll enc Efeg.prog W 0 (fun _ => true) true Efeg.f8.params.toList args.toList ds p := hA0
  rw [Efeg.params8] at hA hval
  obtain ⟨v0, vs0, d0, ds0, p0, q0, hargs, rfl, rfl, h0, r0⟩ := trodAll_cons hA
  obtain ⟨rfl, rfl, rfl⟩ := trodAll_nil r0
  obtain rfl : args = #[v0] := by cases args; simp_all
  obtain ⟨rfl, rfl⟩ := trodVars_none hV
  obtain ⟨a0, len0, cap0, rfl⟩ := okWide_slice Efeg.underlying43 (hval 0 43 v0 rfl rfl)
  have k0 := h0
  have lt0 : ∀ x ∈ p0, x.block < W.heap.size := by obtain ⟨m, hm⟩ := k0; exact DataW.trod_lt m _ _ _ hm
  obtain ⟨z0, rfl, w0, e0⟩ := defs_of_trod h0
  clear hA0 hval0
  refine (walk8 (cap := cap0) w0 e0).mono fun e W' ⟨he, bel⟩ => ?_
  subst he
  exact ⟨_, rfl, _, _, _, [], _, [], hW', trodAll_mk1 (shut_bool Efeg.underlying4 _), (trodAll_cons_mk (Below.trod laidOut (by kernel_rfl) (of_decide_eq_true (by kernel_rfl)) k0 bel lt0) trodAll_mk0), rfl, bel.frame _, fun h => by cases h⟩

theorem over : Rows.fnDefineBuiltinRecordsInRootRow.holds Efeg.pinned (OpenSpec.ofChange Rows.fnDefineBuiltinRecordsInRootSpec) :=
  OpenClaim.holds_of_wide 8 Efeg.f8 rfl rfl rfl rfl rfl rfl rfl ⟨rfl, rfl, rfl, rfl, rfl⟩ rfl rfl rfl rfl rfl (by kernel_rfl) Efeg.func8 (by kernel_rfl)
    (of_decide_eq_true (by kernel_rfl)) (by unfold Func.isWrapper; first | (rw [if_pos (by decide +kernel)]; kernel_rfl) | (rw [if_neg (by decide +kernel)]; exact ⟨rfl, rfl⟩))
    (fun os started H enc _ => lifted os started H enc)

/-- The statement. -/
theorem proved : Rows.FnDefineBuiltinRecordsInRootSaid := over
#print axioms proved
end Go.Proofs.Yoefew.fnDefineBuiltinRecordsInRoot
