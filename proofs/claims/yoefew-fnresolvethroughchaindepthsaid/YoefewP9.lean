/-
  'Rows.FnResolveThroughChainDepthSaid': the row's step, out of the law's walk.
-/
import Derived.Test.YoefewRows
import Derived.Test.YoefewFrame9
import Derived.Test.YoefewW9
namespace Go.Proofs.Yoefew.fnResolveThroughChainDepth
open Go.ChangeShapes Go.WideShapes Go.ChangeAt Go.RowKit
open Go.ChangeMaps (open_string shut_string)
set_option linter.unusedVariables false

set_option maxRecDepth 100000 in
theorem lifted (os : Os) (started : os.Started) (H : Type) (enc : TypeId × Value → H) :
    ReturnsInHanded {} Efeg.checked os 9 .any (Rows.fnResolveThroughChainDepthSpec.pre6 enc Efeg.prog Efeg.f9 Rows.fnResolveThroughChainDepthRow.domain false) (Rows.fnResolveThroughChainDepthSpec.post enc Efeg.prog Efeg.f9 false true false false) := by
  refine returnsInHanded_of_change (C := Efeg.checked) own started (by kernel_rfl) Efeg.func9
    (ChangeSpec.witness6 (enc := enc) (C := Efeg.checked) false ⟨#[], #[.slice none 0 0, .string ByteArray.empty, .string ByteArray.empty, .int .i64 0], []⟩ 8 (by kernel_rfl) (by kernel_rfl) (by kernel_rfl) (by kernel_rfl)) ?_
  intro W base args ds gs before hval0 hW hcnd _
  have hval : ∀ (j : Nat) t v, Efeg.f9.params[j]? = some t → args[j]? = some v → Value.okWide Efeg.prog W .any base t v := hval0
  have hW' := hW
  obtain ⟨p, q, hA0, hV, rfl, hfz, hnd⟩ := hW
  have hA : DataW.TrodAll enc Efeg.prog W 0 (fun _ => true) true Efeg.f9.params.toList args.toList ds p := hA0
  rw [Efeg.params9] at hA hval
  obtain ⟨v0, vs0, d0, ds0, p0, q0, hargs, rfl, rfl, h0, r0⟩ := trodAll_cons hA
  obtain ⟨v1, vs1, d1, ds1, p1, q1, rfl, rfl, rfl, h1, r1⟩ := trodAll_cons r0
  obtain ⟨v2, vs2, d2, ds2, p2, q2, rfl, rfl, rfl, h2, r2⟩ := trodAll_cons r1
  obtain ⟨v3, vs3, d3, ds3, p3, q3, rfl, rfl, rfl, h3, r3⟩ := trodAll_cons r2
  obtain ⟨rfl, rfl, rfl⟩ := trodAll_nil r3
  obtain rfl : args = #[v0, v1, v2, v3] := by cases args; simp_all
  obtain ⟨rfl, rfl⟩ := trodVars_none hV
  obtain ⟨a0, len0, cap0, rfl⟩ := okWide_slice Efeg.underlying49 (hval 0 49 v0 rfl rfl)
  have k0 := h0
  have lt0 : ∀ x ∈ p0, x.block < W.heap.size := by obtain ⟨m, hm⟩ := k0; exact DataW.trod_lt m _ _ _ hm
  obtain ⟨z0, rfl, w0, e0⟩ := bools_of_trod h0
  obtain ⟨a1, rfl, rfl, rfl, w1⟩ := open_string Efeg.underlying9 (hval 1 9 v1 rfl rfl) h1
  obtain ⟨a2, rfl, rfl, rfl, w2⟩ := open_string Efeg.underlying9 (hval 2 9 v2 rfl rfl) h2
  obtain ⟨a3, rfl, rfl, rfl, w3⟩ := open_int Efeg.underlying3 (hval 3 3 v3 rfl rfl) h3
  clear hA0 hval0
  refine (walk9 (cap := cap0) w0 e0 a1 a2 w1 w2 a3).mono fun e W' ⟨he, bel⟩ => ?_
  subst he
  exact ⟨_, rfl, _, _, _, [], _, [], hW', trodAll_mk1 (shut_bool Efeg.underlying4 _), (trodAll_cons_mk (Below.trod laidOut (by kernel_rfl) (of_decide_eq_true (by kernel_rfl)) k0 bel lt0) (trodAll_cons_mk (shut_string Efeg.underlying9 w1) (trodAll_cons_mk (shut_string Efeg.underlying9 w2) (trodAll_cons_mk (shut_int Efeg.underlying3 w3) trodAll_mk0)))), rfl, bel.frame _, fun h => by cases h⟩

theorem over : Rows.fnResolveThroughChainDepthRow.holds Efeg.pinned (OpenSpec.ofChange Rows.fnResolveThroughChainDepthSpec) :=
  OpenClaim.holds_of_wide 9 Efeg.f9 rfl rfl rfl rfl rfl rfl rfl ⟨rfl, rfl, rfl, rfl, rfl⟩ rfl rfl rfl rfl rfl (by kernel_rfl) Efeg.func9 (by kernel_rfl)
    (of_decide_eq_true (by kernel_rfl)) (by unfold Func.isWrapper; first | (rw [if_pos (by decide +kernel)]; kernel_rfl) | (rw [if_neg (by decide +kernel)]; exact ⟨rfl, rfl⟩))
    (fun os started H enc _ => lifted os started H enc)

/-- The statement. -/
theorem proved : Rows.FnResolveThroughChainDepthSaid := over
#print axioms proved
end Go.Proofs.Yoefew.fnResolveThroughChainDepth
