/-
  'Rows.FnDefineLocalBlockSlotsSaid': the row's step, out of the law's walk.
-/
import Derived.Test.YoefewRows
import Derived.Test.YoefewFrame
import Derived.Test.YoefewW6
namespace Go.Proofs.Yoefew.fnDefineLocalBlockSlots
open Go.ChangeShapes Go.WideShapes Go.ChangeAt Go.RowKit
open Go.ChangeMaps (open_string shut_string)
set_option linter.unusedVariables false

set_option maxRecDepth 100000 in
theorem lifted (os : Os) (started : os.Started) (H : Type) (enc : TypeId × Value → H) :
    ReturnsInHanded {} Efeg.checked os 6 .any (Rows.fnDefineLocalBlockSlotsSpec.pre6 enc Efeg.prog Efeg.f6 Rows.fnDefineLocalBlockSlotsRow.domain false) (Rows.fnDefineLocalBlockSlotsSpec.post enc Efeg.prog Efeg.f6 false true false false) := by
  refine returnsInHanded_of_change (C := Efeg.checked) own started (by kernel_rfl) Efeg.func6
    (ChangeSpec.witness6 (enc := enc) (C := Efeg.checked) false ⟨#[], #[.slice none 0 0, .slice none 0 0, .slice none 0 0, .slice none 0 0], []⟩ 8 (by kernel_rfl) (by kernel_rfl) (by kernel_rfl) (by kernel_rfl)) ?_
  intro W base args ds gs before hval0 hW hcnd _
  have hval : ∀ (j : Nat) t v, Efeg.f6.params[j]? = some t → args[j]? = some v → Value.okWide Efeg.prog W .any base t v := hval0
  have hW' := hW
  obtain ⟨p, q, hA0, hV, rfl, hfz, hnd⟩ := hW
  have hA : DataW.TrodAll enc Efeg.prog W 0 (fun _ => true) true Efeg.f6.params.toList args.toList ds p := hA0
  rw [Efeg.params6] at hA hval
  obtain ⟨v0, vs0, d0, ds0, p0, q0, hargs, rfl, rfl, h0, r0⟩ := trodAll_cons hA
  obtain ⟨v1, vs1, d1, ds1, p1, q1, rfl, rfl, rfl, h1, r1⟩ := trodAll_cons r0
  obtain ⟨v2, vs2, d2, ds2, p2, q2, rfl, rfl, rfl, h2, r2⟩ := trodAll_cons r1
  obtain ⟨v3, vs3, d3, ds3, p3, q3, rfl, rfl, rfl, h3, r3⟩ := trodAll_cons r2
  obtain ⟨rfl, rfl, rfl⟩ := trodAll_nil r3
  obtain rfl : args = #[v0, v1, v2, v3] := by cases args; simp_all
  obtain ⟨rfl, rfl⟩ := trodVars_none hV
  obtain ⟨a0, len0, cap0, rfl⟩ := okWide_slice Efeg.underlying33 (hval 0 33 v0 rfl rfl)
  have k0 := h0
  have lt0 : ∀ x ∈ p0, x.block < W.heap.size := by obtain ⟨m, hm⟩ := k0; exact DataW.trod_lt m _ _ _ hm
  obtain ⟨z0, rfl, w0, e0⟩ := strs_of_trod h0
  obtain ⟨a1, len1, cap1, rfl⟩ := okWide_slice Efeg.underlying33 (hval 1 33 v1 rfl rfl)
  have k1 := h1
  have lt1 : ∀ x ∈ p1, x.block < W.heap.size := by obtain ⟨m, hm⟩ := k1; exact DataW.trod_lt m _ _ _ hm
  obtain ⟨z1, rfl, w1, e1⟩ := strs_of_trod h1
  obtain ⟨a2, len2, cap2, rfl⟩ := okWide_slice Efeg.underlying33 (hval 2 33 v2 rfl rfl)
  have k2 := h2
  have lt2 : ∀ x ∈ p2, x.block < W.heap.size := by obtain ⟨m, hm⟩ := k2; exact DataW.trod_lt m _ _ _ hm
  obtain ⟨z2, rfl, w2, e2⟩ := strs_of_trod h2
  obtain ⟨a3, len3, cap3, rfl⟩ := okWide_slice Efeg.underlying33 (hval 3 33 v3 rfl rfl)
  have k3 := h3
  have lt3 : ∀ x ∈ p3, x.block < W.heap.size := by obtain ⟨m, hm⟩ := k3; exact DataW.trod_lt m _ _ _ hm
  obtain ⟨z3, rfl, w3, e3⟩ := strs_of_trod h3
  clear hA0 hval0
  refine (walk6 (cap0 := cap0) (cap1 := cap1) (cap2 := cap2) (cap3 := cap3) w0 w1 w2 w3 e0 e1 e2 e3).mono fun e W' ⟨he, bel⟩ => ?_
  subst he
  exact ⟨_, rfl, _, _, _, [], _, [], hW', trodAll_mk1 (shut_bool Efeg.underlying4 _), (trodAll_cons_mk (Below.trod laidOut (by kernel_rfl) (of_decide_eq_true (by kernel_rfl)) k0 bel lt0) (trodAll_cons_mk (Below.trod laidOut (by kernel_rfl) (of_decide_eq_true (by kernel_rfl)) k1 bel lt1) (trodAll_cons_mk (Below.trod laidOut (by kernel_rfl) (of_decide_eq_true (by kernel_rfl)) k2 bel lt2) (trodAll_cons_mk (Below.trod laidOut (by kernel_rfl) (of_decide_eq_true (by kernel_rfl)) k3 bel lt3) trodAll_mk0)))), rfl, bel.frame _, fun h => by cases h⟩

theorem over : Rows.fnDefineLocalBlockSlotsRow.holds Efeg.pinned (OpenSpec.ofChange Rows.fnDefineLocalBlockSlotsSpec) :=
  OpenClaim.holds_of_wide 6 Efeg.f6 rfl rfl rfl rfl rfl rfl rfl ⟨rfl, rfl, rfl, rfl, rfl⟩ rfl rfl rfl rfl rfl (by kernel_rfl) Efeg.func6 (by kernel_rfl)
    (of_decide_eq_true (by kernel_rfl)) (by unfold Func.isWrapper; first | (rw [if_pos (by decide +kernel)]; kernel_rfl) | (rw [if_neg (by decide +kernel)]; exact ⟨rfl, rfl⟩))
    (fun os started H enc _ => lifted os started H enc)

/-- The statement. -/
theorem proved : Rows.FnDefineLocalBlockSlotsSaid := over
#print axioms proved
end Go.Proofs.Yoefew.fnDefineLocalBlockSlots
