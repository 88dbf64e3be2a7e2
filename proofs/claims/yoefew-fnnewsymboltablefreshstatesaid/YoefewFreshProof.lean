/-
  'Rows.FnNewSymbolTableFreshStateSaid': the walk of the law, and the row's step (after the seat's given shell).
-/
import Derived.Test.YoefewRows
import Derived.Test.YoefewT2
import Derived.WalkKit
import Derived.ProofKit
import Derived.OpenShut
namespace Go.Proofs.Yoefew.fnNewSymbolTableFreshState
open Go.Proofs.Yoefew Go.Maps
open Go.ChangeShapes Go.WideShapes Go.ChangeAt Go.RowKit
open Go.ChangeMaps (open_string shut_string)
set_option linter.unusedVariables false      -- a walk need not use every 'w<i>' (that an integer argument fits its kind)

theorem own : ownKnob Efeg.prog.godebug = none := by kernel_rfl

/-! ### The walk -/

theorem bytes12 (a0 : ByteArray) (w : World) (w0 : a0.size ≤ maxLen) : Calls Efeg.prog 12 #[.string a0] w fun e w' => e = .returned (.bool (decide (a0.size ≤ 1048576))) ∧ w' = w := by
  unfold maxLen at w0
  by_cases h : (a0.size : Int) ≤ 1048576
  · have e1 : decide (a0.size ≤ 1048576) = true := by simp; omega
    rw [e1]
    go_enter Efeg.func12, Efeg.ntmps12
    go_wp2
    go_ret
    exact ⟨rfl, rfl⟩
  · have e1 : decide (a0.size ≤ 1048576) = false := by simp; omega
    rw [e1]
    go_enter Efeg.func12, Efeg.ntmps12
    go_wp2
    go_ret
    exact ⟨rfl, rfl⟩

theorem nosym19 (w : World) : Calls Efeg.prog 19 #[.pointer none, .int .i64 0, .bool false] w fun e w' => e = .returned (.bool true) ∧ w' = w := by
  go_enter Efeg.func19, Efeg.ntmps19
  go_wp2
  go_ret
  exact ⟨rfl, rfl⟩

theorem walk (a0 : ByteArray) (w0 : a0.size ≤ maxLen) (w : World) :
    Calls Efeg.prog 3 #[.string a0] w fun e w' => e = .returned (.bool true) ∧ Below w.heap.size w w' := by
  by_cases h : a0.size ≤ 1048576
  · have hd : decide (a0.size ≤ 1048576) = true := by simpa using h
    have h1 : (a0.size : Int) ≤ 1048576 := by omega
    have hb := bytes12 a0 w w0
    rw [hd] at hb
    have HB := hide hb
    clear hb hd h
    go_enter Efeg.func3, Efeg.ntmps3
    go_wp2_with fail
    refine (unhide HB).mono ?_
    rintro e w' ⟨rfl, rfl⟩
    go_wp2_with fail
    refine (new_calls _).mono ?_
    rintro e w1 ⟨b, mb, rfl, _, _, _, ht, hm, hk⟩
    have hbel : Hid (Below w'.heap.size w' w1) := hk.below (Nat.le_refl _) (by simp)
    clear hk
    go_wp2_with fail
    refine (parent_false ht).mono ?_
    rintro e w2 ⟨rfl, rfl⟩
    go_wp2_with fail
    refine (parent_nb ht).mono ?_
    rintro e w2 ⟨rfl, rfl⟩
    go_wp2_with fail
    refine (max_calls ht).mono ?_
    rintro e w2 ⟨rfl, rfl⟩
    go_wp2_with fail
    refine (free_calls ht).mono ?_
    rintro e w2 ⟨rfl, rfl⟩
    go_wp2_with fail
    refine (builtin_root ht).mono ?_
    rintro e w2 ⟨rfl, rfl⟩
    go_wp2_with fail
    refine (resolve_root_none ht hm w0 rfl false).mono ?_
    rintro e w2 ⟨rfl, rfl⟩
    go_wp2_with fail
    refine (nosym19 _).mono ?_
    rintro e w2 ⟨rfl, rfl⟩
    go_wp2_with fail
    refine (resolve_root_none ht hm w0 rfl true).mono ?_
    rintro e w2 ⟨rfl, rfl⟩
    go_wp2_with fail
    refine (nosym19 _).mono ?_
    rintro e w2 ⟨rfl, rfl⟩
    go_wp2_with fail
    go_ret
    exact ⟨rfl, hbel.out⟩
  · have hd : decide (a0.size ≤ 1048576) = false := by simpa using h
    have hb := bytes12 a0 w w0
    rw [hd] at hb
    have HB := hide hb
    clear hb hd h
    go_enter Efeg.func3, Efeg.ntmps3
    go_wp2_with fail
    refine (unhide HB).mono ?_
    rintro e w' ⟨rfl, rfl⟩
    go_wp2_with fail
    go_ret
    exact ⟨rfl, Below.refl _ _⟩

/-! ### The row's step -/
set_option maxRecDepth 100000 in
theorem lifted (os : Os) (started : os.Started) (H : Type) (enc : TypeId × Value → H) :
    ReturnsInHanded {} Efeg.checked os 3 .any (Rows.fnNewSymbolTableFreshStateSpec.pre6 enc Efeg.prog Efeg.f3 Rows.fnNewSymbolTableFreshStateRow.domain false) (Rows.fnNewSymbolTableFreshStateSpec.post enc Efeg.prog Efeg.f3 false true false false) := by
  refine returnsInHanded_of_change (C := Efeg.checked) own started (by kernel_rfl) Efeg.func3
    (ChangeSpec.witness6 (enc := enc) (C := Efeg.checked) false ⟨#[], #[.string ByteArray.empty], []⟩ 8 (by kernel_rfl) (by kernel_rfl) (by kernel_rfl) (by kernel_rfl)) ?_
  intro W base args ds gs before hval0 hW hcnd _
  have hval : ∀ (j : Nat) t v, Efeg.f3.params[j]? = some t → args[j]? = some v → Value.okWide Efeg.prog W .any base t v := hval0
  have hW' := hW
  obtain ⟨p, q, hA0, hV, rfl, hfz, hnd⟩ := hW
  have hA : DataW.TrodAll enc Efeg.prog W 0 (fun _ => true) true Efeg.f3.params.toList args.toList ds p := hA0
  rw [Efeg.params3] at hA hval
  obtain ⟨v0, vs0, d0, ds0, p0, q0, hargs, rfl, rfl, h0, r0⟩ := trodAll_cons hA
  obtain ⟨rfl, rfl, rfl⟩ := trodAll_nil r0
  obtain rfl : args = #[v0] := by cases args; simp_all
  obtain ⟨rfl, rfl⟩ := trodVars_none hV
  obtain ⟨a0, rfl, rfl, rfl, w0⟩ := open_string Efeg.underlying9 (hval 0 9 v0 rfl rfl) h0
  clear hA0 hval0
  simp only [List.append_nil] at hW'
  refine (walk a0 w0 W).mono fun e W' ⟨he, hg⟩ => ?_
  subst he
  exact ⟨_, rfl, _, _, _, [], _, [], hW', trodAll_mk1 (shut_bool Efeg.underlying4 _), (trodAll_cons_mk (shut_string Efeg.underlying9 w0) trodAll_mk0), rfl, hg.frame _, fun h => by cases h⟩

theorem over : Rows.fnNewSymbolTableFreshStateRow.holds Efeg.pinned (OpenSpec.ofChange Rows.fnNewSymbolTableFreshStateSpec) :=
  OpenClaim.holds_of_wide 3 Efeg.f3 rfl rfl rfl rfl rfl rfl rfl ⟨rfl, rfl, rfl, rfl, rfl⟩ rfl rfl rfl rfl rfl (by kernel_rfl) Efeg.func3 (by kernel_rfl)
    (of_decide_eq_true (by kernel_rfl)) (by unfold Func.isWrapper; first | (rw [if_pos (by decide +kernel)]; kernel_rfl) | (rw [if_neg (by decide +kernel)]; exact ⟨rfl, rfl⟩))
    (fun os started H enc _ => lifted os started H enc)

/-- ████ THE STATEMENT ████ -/
theorem proved : Rows.FnNewSymbolTableFreshStateSaid :=
  over
#print axioms proved
end Go.Proofs.Yoefew.fnNewSymbolTableFreshState
