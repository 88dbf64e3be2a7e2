/-
  No cell of these rows narrows 'for every input' (looked for: loops, veiled, ifaces, maps, wideKeys, modest, calm, conditions, laid).
  DERIVED. THE GIVEN ROWS OF THIS SEAT. 9 by the template 'for every input the law returns true; each argument reads behind the call as it read before'; 0 by the template 'total and deterministic' (their statements: YoefewTotals.lean).
  GIVEN WITH THE SEED: the statements are not yours to turn. If you find one false, say at which input.
  Laid BY PROGRAM, IN A SANDBOX (cutbox-rows.mjs): the forced cells as the released guide's own fill.sh prints them over the translation bb48479dc74fedc6… (all of the seat's roots in one cut). By AI agents, Wed Nov 11 2026. No macro, syntax, notation, axiom, sorry.
-/
import Derived.Test.YoefewChecked
import GoSem.Claim
import GoSem.ClaimJoined
import GoSem.ClaimMapViews
import Derived.JoinedTies
import Derived.KernelRfl
namespace Go.Proofs.Yoefew
/- THE CELL 'sum', in the pinned program and in every row, IS THE sha256 OF THE DUMP (.gsa) THAT YoefewProg.lean LOADS. Nothing in Lean hashes anything: it is a label: what it is worth is what the hold of that sum in a sandbox is worth. -/
noncomputable def Efeg.pinned : Pinned := { name := "yoefew", sum := "bb48479dc74fedc6649a6ad3d650b24ab318f0f1019b70c46276d106ddf1a70d", checked := Efeg.checked }
namespace Rows
def none {H : Type} : Left H := { results := [], args := [] }

/-- 'zzlaws_root_b1.FnNewSymbolTableFreshState': WHATEVER THE INPUT: true; the input reads as it did. -/
def fnNewSymbolTableFreshStateSpec : ChangeSpec := { name := "fnNewSymbolTableFreshState", fn := fun _ => fun
  | [d] => { results := [.lit (.bool true)], args := [d] }
  | _ => none }
def fnNewSymbolTableFreshStateRow : OpenClaim := { program := "yoefew", sum := "bb48479dc74fedc6649a6ad3d650b24ab318f0f1019b70c46276d106ddf1a70d", func := "github.com/d5/tengo/v2/zzlaws_root_b1.FnNewSymbolTableFreshState", spec := "fnNewSymbolTableFreshState", recurses := true, apart := false }
def FnNewSymbolTableFreshStateSaid : Prop := fnNewSymbolTableFreshStateRow.holds Efeg.pinned (OpenSpec.ofChange fnNewSymbolTableFreshStateSpec)

/-- ITS FALSE NEIGHBOUR: 'it returns false'. Refute it at one input. -/
def fnNewSymbolTableFreshStateWrong : ChangeSpec := { name := "fnNewSymbolTableFreshState", fn := fun _ => fun
  | [d] => { results := [.lit (.bool false)], args := [d] }
  | _ => none }
def FnNewSymbolTableFreshStateWrongFalsely : Prop := fnNewSymbolTableFreshStateRow.holds Efeg.pinned (OpenSpec.ofChange fnNewSymbolTableFreshStateWrong)

/-- 'zzlaws_root_b1.FnNewSymbolTableIndependent': WHATEVER THE INPUT: true; the input reads as it did. -/
def fnNewSymbolTableIndependentSpec : ChangeSpec := { name := "fnNewSymbolTableIndependent", fn := fun _ => fun
  | [d1, d2] => { results := [.lit (.bool true)], args := [d1, d2] }
  | _ => none }
def fnNewSymbolTableIndependentRow : OpenClaim := { program := "yoefew", sum := "bb48479dc74fedc6649a6ad3d650b24ab318f0f1019b70c46276d106ddf1a70d", func := "github.com/d5/tengo/v2/zzlaws_root_b1.FnNewSymbolTableIndependent", spec := "fnNewSymbolTableIndependent", recurses := true, apart := false }
def FnNewSymbolTableIndependentSaid : Prop := fnNewSymbolTableIndependentRow.holds Efeg.pinned (OpenSpec.ofChange fnNewSymbolTableIndependentSpec)

/-- ITS FALSE NEIGHBOUR: 'it returns false'. Refute it at one input. -/
def fnNewSymbolTableIndependentWrong : ChangeSpec := { name := "fnNewSymbolTableIndependent", fn := fun _ => fun
  | [d1, d2] => { results := [.lit (.bool false)], args := [d1, d2] }
  | _ => none }
def FnNewSymbolTableIndependentWrongFalsely : Prop := fnNewSymbolTableIndependentRow.holds Efeg.pinned (OpenSpec.ofChange fnNewSymbolTableIndependentWrong)

/-- 'zzlaws_root_b1.FnDefineGlobalSequence': WHATEVER THE INPUT: true; the input reads as it did. -/
def fnDefineGlobalSequenceSpec : ChangeSpec := { name := "fnDefineGlobalSequence", fn := fun _ => fun
  | [d1, d2] => { results := [.lit (.bool true)], args := [d1, d2] }
  | _ => none }
def fnDefineGlobalSequenceRow : OpenClaim := { program := "yoefew", sum := "bb48479dc74fedc6649a6ad3d650b24ab318f0f1019b70c46276d106ddf1a70d", func := "github.com/d5/tengo/v2/zzlaws_root_b1.FnDefineGlobalSequence", spec := "fnDefineGlobalSequence", recurses := true, apart := false }
def FnDefineGlobalSequenceSaid : Prop := fnDefineGlobalSequenceRow.holds Efeg.pinned (OpenSpec.ofChange fnDefineGlobalSequenceSpec)

/-- ITS FALSE NEIGHBOUR: 'it returns false'. Refute it at one input. -/
def fnDefineGlobalSequenceWrong : ChangeSpec := { name := "fnDefineGlobalSequence", fn := fun _ => fun
  | [d1, d2] => { results := [.lit (.bool false)], args := [d1, d2] }
  | _ => none }
def FnDefineGlobalSequenceWrongFalsely : Prop := fnDefineGlobalSequenceRow.holds Efeg.pinned (OpenSpec.ofChange fnDefineGlobalSequenceWrong)

/-- 'zzlaws_root_b1.FnDefineLocalBlockSlots': WHATEVER THE INPUT: true; the input reads as it did. -/
def fnDefineLocalBlockSlotsSpec : ChangeSpec := { name := "fnDefineLocalBlockSlots", fn := fun _ => fun
  | [d1, d2, d3, d4] => { results := [.lit (.bool true)], args := [d1, d2, d3, d4] }
  | _ => none }
def fnDefineLocalBlockSlotsRow : OpenClaim := { program := "yoefew", sum := "bb48479dc74fedc6649a6ad3d650b24ab318f0f1019b70c46276d106ddf1a70d", func := "github.com/d5/tengo/v2/zzlaws_root_b1.FnDefineLocalBlockSlots", spec := "fnDefineLocalBlockSlots", recurses := true, apart := false }
def FnDefineLocalBlockSlotsSaid : Prop := fnDefineLocalBlockSlotsRow.holds Efeg.pinned (OpenSpec.ofChange fnDefineLocalBlockSlotsSpec)

/-- ITS FALSE NEIGHBOUR: 'it returns false'. Refute it at one input. -/
def fnDefineLocalBlockSlotsWrong : ChangeSpec := { name := "fnDefineLocalBlockSlots", fn := fun _ => fun
  | [d1, d2, d3, d4] => { results := [.lit (.bool false)], args := [d1, d2, d3, d4] }
  | _ => none }
def FnDefineLocalBlockSlotsWrongFalsely : Prop := fnDefineLocalBlockSlotsRow.holds Efeg.pinned (OpenSpec.ofChange fnDefineLocalBlockSlotsWrong)

/-- 'zzlaws_root_b1.FnDefineGlobalBlocksNoReuse': WHATEVER THE INPUT: true; the input reads as it did. -/
def fnDefineGlobalBlocksNoReuseSpec : ChangeSpec := { name := "fnDefineGlobalBlocksNoReuse", fn := fun _ => fun
  | [d1, d2, d3, d4] => { results := [.lit (.bool true)], args := [d1, d2, d3, d4] }
  | _ => none }
def fnDefineGlobalBlocksNoReuseRow : OpenClaim := { program := "yoefew", sum := "bb48479dc74fedc6649a6ad3d650b24ab318f0f1019b70c46276d106ddf1a70d", func := "github.com/d5/tengo/v2/zzlaws_root_b1.FnDefineGlobalBlocksNoReuse", spec := "fnDefineGlobalBlocksNoReuse", recurses := true, apart := false }
def FnDefineGlobalBlocksNoReuseSaid : Prop := fnDefineGlobalBlocksNoReuseRow.holds Efeg.pinned (OpenSpec.ofChange fnDefineGlobalBlocksNoReuseSpec)

/-- ITS FALSE NEIGHBOUR: 'it returns false'. Refute it at one input. -/
def fnDefineGlobalBlocksNoReuseWrong : ChangeSpec := { name := "fnDefineGlobalBlocksNoReuse", fn := fun _ => fun
  | [d1, d2, d3, d4] => { results := [.lit (.bool false)], args := [d1, d2, d3, d4] }
  | _ => none }
def FnDefineGlobalBlocksNoReuseWrongFalsely : Prop := fnDefineGlobalBlocksNoReuseRow.holds Efeg.pinned (OpenSpec.ofChange fnDefineGlobalBlocksNoReuseWrong)

/-- 'zzlaws_root_b1.FnDefineBuiltinRecordsInRoot': WHATEVER THE INPUT: true; the input reads as it did. -/
def fnDefineBuiltinRecordsInRootSpec : ChangeSpec := { name := "fnDefineBuiltinRecordsInRoot", fn := fun _ => fun
  | [d] => { results := [.lit (.bool true)], args := [d] }
  | _ => none }
def fnDefineBuiltinRecordsInRootRow : OpenClaim := { program := "yoefew", sum := "bb48479dc74fedc6649a6ad3d650b24ab318f0f1019b70c46276d106ddf1a70d", func := "github.com/d5/tengo/v2/zzlaws_root_b1.FnDefineBuiltinRecordsInRoot", spec := "fnDefineBuiltinRecordsInRoot", recurses := true, apart := false }
def FnDefineBuiltinRecordsInRootSaid : Prop := fnDefineBuiltinRecordsInRootRow.holds Efeg.pinned (OpenSpec.ofChange fnDefineBuiltinRecordsInRootSpec)

/-- ITS FALSE NEIGHBOUR: 'it returns false'. Refute it at one input. -/
def fnDefineBuiltinRecordsInRootWrong : ChangeSpec := { name := "fnDefineBuiltinRecordsInRoot", fn := fun _ => fun
  | [d] => { results := [.lit (.bool false)], args := [d] }
  | _ => none }
def FnDefineBuiltinRecordsInRootWrongFalsely : Prop := fnDefineBuiltinRecordsInRootRow.holds Efeg.pinned (OpenSpec.ofChange fnDefineBuiltinRecordsInRootWrong)

/-- 'zzlaws_root_b1.FnResolveThroughChainDepth': WHATEVER THE INPUT: true; the input reads as it did. -/
def fnResolveThroughChainDepthSpec : ChangeSpec := { name := "fnResolveThroughChainDepth", fn := fun _ => fun
  | [d1, d2, d3, d4] => { results := [.lit (.bool true)], args := [d1, d2, d3, d4] }
  | _ => none }
def fnResolveThroughChainDepthRow : OpenClaim := { program := "yoefew", sum := "bb48479dc74fedc6649a6ad3d650b24ab318f0f1019b70c46276d106ddf1a70d", func := "github.com/d5/tengo/v2/zzlaws_root_b1.FnResolveThroughChainDepth", spec := "fnResolveThroughChainDepth", recurses := true, apart := false }
def FnResolveThroughChainDepthSaid : Prop := fnResolveThroughChainDepthRow.holds Efeg.pinned (OpenSpec.ofChange fnResolveThroughChainDepthSpec)

/-- ITS FALSE NEIGHBOUR: 'it returns false'. Refute it at one input. -/
def fnResolveThroughChainDepthWrong : ChangeSpec := { name := "fnResolveThroughChainDepth", fn := fun _ => fun
  | [d1, d2, d3, d4] => { results := [.lit (.bool false)], args := [d1, d2, d3, d4] }
  | _ => none }
def FnResolveThroughChainDepthWrongFalsely : Prop := fnResolveThroughChainDepthRow.holds Efeg.pinned (OpenSpec.ofChange fnResolveThroughChainDepthWrong)

/-- 'zzlaws_root_b1.FnResolveFreeVariables': WHATEVER THE INPUT: true; the input reads as it did. -/
def fnResolveFreeVariablesSpec : ChangeSpec := { name := "fnResolveFreeVariables", fn := fun _ => fun
  | [d1, d2] => { results := [.lit (.bool true)], args := [d1, d2] }
  | _ => none }
def fnResolveFreeVariablesRow : OpenClaim := { program := "yoefew", sum := "bb48479dc74fedc6649a6ad3d650b24ab318f0f1019b70c46276d106ddf1a70d", func := "github.com/d5/tengo/v2/zzlaws_root_b1.FnResolveFreeVariables", spec := "fnResolveFreeVariables", recurses := true, apart := false }
def FnResolveFreeVariablesSaid : Prop := fnResolveFreeVariablesRow.holds Efeg.pinned (OpenSpec.ofChange fnResolveFreeVariablesSpec)

/-- ITS FALSE NEIGHBOUR: 'it returns false'. Refute it at one input. -/
def fnResolveFreeVariablesWrong : ChangeSpec := { name := "fnResolveFreeVariables", fn := fun _ => fun
  | [d1, d2] => { results := [.lit (.bool false)], args := [d1, d2] }
  | _ => none }
def FnResolveFreeVariablesWrongFalsely : Prop := fnResolveFreeVariablesRow.holds Efeg.pinned (OpenSpec.ofChange fnResolveFreeVariablesWrong)

/-- 'zzlaws_root_b1.FnResolveLocalAssignedException': WHATEVER THE INPUT: true; the input reads as it did. -/
def fnResolveLocalAssignedExceptionSpec : ChangeSpec := { name := "fnResolveLocalAssignedException", fn := fun _ => fun
  | [d1, d2, d3, d4] => { results := [.lit (.bool true)], args := [d1, d2, d3, d4] }
  | _ => none }
def fnResolveLocalAssignedExceptionRow : OpenClaim := { program := "yoefew", sum := "bb48479dc74fedc6649a6ad3d650b24ab318f0f1019b70c46276d106ddf1a70d", func := "github.com/d5/tengo/v2/zzlaws_root_b1.FnResolveLocalAssignedException", spec := "fnResolveLocalAssignedException", recurses := true, apart := false }
def FnResolveLocalAssignedExceptionSaid : Prop := fnResolveLocalAssignedExceptionRow.holds Efeg.pinned (OpenSpec.ofChange fnResolveLocalAssignedExceptionSpec)

/-- ITS FALSE NEIGHBOUR: 'it returns false'. Refute it at one input. -/
def fnResolveLocalAssignedExceptionWrong : ChangeSpec := { name := "fnResolveLocalAssignedException", fn := fun _ => fun
  | [d1, d2, d3, d4] => { results := [.lit (.bool false)], args := [d1, d2, d3, d4] }
  | _ => none }
def FnResolveLocalAssignedExceptionWrongFalsely : Prop := fnResolveLocalAssignedExceptionRow.holds Efeg.pinned (OpenSpec.ofChange fnResolveLocalAssignedExceptionWrong)

end Rows
end Go.Proofs.Yoefew
