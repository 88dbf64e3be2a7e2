/-
  'Rows.FnResolveLocalAssignedExceptionSaid': the row's step, out of the law's walk.
-/
import Derived.Test.YoefewRows
import Derived.Test.YoefewFrame
import Derived.Test.YoefewW11
namespace Go.Proofs.Yoefew.fnResolveLocalAssignedException
open Go.ChangeShapes Go.WideShapes Go.ChangeAt Go.RowKit
open Go.ChangeMaps (open_string shut_string)
set_option linter.unusedVariables false

set_option maxRecDepth 100000 in
theorem lifted (os : Os) (started : os.Started) (H : Type) (enc : TypeId × Value → H) :
    ReturnsInHanded {} Efeg.checked os 11 .any (Rows.fnResolveLocalAssignedExceptionSpec.pre6 enc Efeg.prog Efeg.f11 Rows.fnResolveLocalAssignedExceptionRow.domain false) (Rows.fnResolveLocalAssignedExceptionSpec.post enc Efeg.prog Efeg.f11 false true false false) := by
  refine returnsInHanded_of_change (C := Efeg.checked) own started (by kernel_rfl) Efeg.func11
    (ChangeSpec.witness6 (enc := enc) (C := Efeg.checked) false ⟨#[], #[.slice none 0 0, .slice none 0 0, .string ByteArray.empty, .bool false], []⟩ 8 (by kernel_rfl) (by kernel_rfl) (by kernel_rfl) (by kernel_rfl)) ?_
  intro W base args ds gs before hval0 hW hcnd _
  have hval : ∀ (j : Nat) t v, Efeg.f11.params[j]? = some t → args[j]? = some v → Value.okWide Efeg.prog W .any base t v := hval0
  have hW' := hW
  obtain ⟨p, q, hA0, hV, rfl, hfz, hnd⟩ := hW
  have hA : DataW.TrodAll enc Efeg.prog W 0 (fun _ => true) true Efeg.f11.params.toList args.toList ds p := hA0
  rw [Efeg.params11] at hA hval
  obtain ⟨v0, vs0, d0, ds0, p0, q0, hargs, rfl, rfl, h0, r0⟩ := trodAll_cons hA
  obtain ⟨v1, vs1, d1, ds1, p1, q1, rfl, rfl, rfl, h1, r1⟩ := trodAll_cons r0
  obtain ⟨v2, vs2, d2, ds2, p2, q2, rfl, rfl, rfl, h2, r2⟩ := trodAll_cons r1
  obtain ⟨v3, vs3, d3, ds3, p3, q3, rfl, rfl, rfl, h3, r3⟩ := trodAll_cons r2
  obtain ⟨rfl, rfl, rfl⟩ := trodAll_nil r3
  obtain rfl : args = #[v0, v1, v2, v3] := by cases args; simp_all
  obtain ⟨rfl, rfl⟩ := trodVars_none hV
  obtain ⟨a0, len0, cap0, rfl⟩ := okWide_slice Efeg.underlying33 (hval 0 33 v0 rfl rfl)
  have k0 := h0
  have lt0 : ∀ x ∈ p0, x.block < W.heap.size := by obtain ⟨m, hm⟩ := k0; exact DataW.trod_lt m _ _ _ hm
  obtain ⟨z0, rfl, w0, e0⟩ := strs_of_trod h0
  obtain ⟨a1, len1, cap1, rfl⟩ := okWide_slice Efeg.underlying33 (hval 1 33 v1 rfl rfl)
  have k1 := h1
  have lt1 : ∀ x ∈ p1, x.block < W.heap.size := by obtain ⟨m, hm⟩ := k1; exact DataW.trod_lt m _ _ _ hm
  obtain ⟨z1, rfl, w1, e1⟩ := strs_of_trod h1
  obtain ⟨a2, rfl, rfl, rfl, w2⟩ := open_string Efeg.underlying9 (hval 2 9 v2 rfl rfl) h2
  obtain ⟨a3, rfl, rfl, rfl⟩ := open_bool Efeg.underlying4 (hval 3 4 v3 rfl rfl) h3
  clear hA0 hval0
  refine (walk11 (cap0 := cap0) (cap1 := cap1) w0 w1 e0 e1 a2 w2 a3).mono fun e W' ⟨he, bel⟩ => ?_
  subst he
  exact ⟨_, rfl, _, _, _, [], _, [], hW', trodAll_mk1 (shut_bool Efeg.underlying4 _), (trodAll_cons_mk (Below.trod laidOut (by kernel_rfl) (of_decide_eq_true (by kernel_rfl)) k0 bel lt0) (trodAll_cons_mk (Below.trod laidOut (by kernel_rfl) (of_decide_eq_true (by kernel_rfl)) k1 bel lt1) (trodAll_cons_mk (shut_string Efeg.underlying9 w2) (trodAll_cons_mk (shut_bool Efeg.underlying4 _) trodAll_mk0)))), rfl, bel.frame _, fun h => by cases h⟩

theorem over : Rows.fnResolveLocalAssignedExceptionRow.holds Efeg.pinned (OpenSpec.ofChange Rows.fnResolveLocalAssignedExceptionSpec) :=
  OpenClaim.holds_of_wide 11 Efeg.f11 rfl rfl rfl rfl rfl rfl rfl ⟨rfl, rfl, rfl, rfl, rfl⟩ rfl rfl rfl rfl rfl (by kernel_rfl) Efeg.func11 (by kernel_rfl)
    (of_decide_eq_true (by kernel_rfl)) (by unfold Func.isWrapper; first | (rw [if_pos (by decide +kernel)]; kernel_rfl) | (rw [if_neg (by decide +kernel)]; exact ⟨rfl, rfl⟩))
    (fun os started H enc _ => lifted os started H enc)

/-- The statement. -/
theorem proved : Rows.FnResolveLocalAssignedExceptionSaid := over
#print axioms proved
end Go.Proofs.Yoefew.fnResolveLocalAssignedException
