import Derived.Test.YoefewBase
import Derived.LaidEqlPtr
namespace Go.Proofs.Yoefew
open Go.RowKit Go.Maps

theorem info39 : (Efeg.prog.info? 39).isSome = true := by kernel_rfl

/-- A pointer to a symbol against itself. -/
theorem neq_same (a : Addr) (w : World) : (binOp .neq 29 (.pointer (some a)) (.pointer (some a))).run Efeg.prog w = .ok (.bool false) w := by
  obtain ⟨j, hj⟩ := Option.isSome_iff_exists.1 info39
  have h : ∀ d : Nat, (Op.equalIn (d + 1) 29 (.pointer (some a)) (.pointer (some a))).run Efeg.prog w = .ok true w := fun d => by
    simp [Op.equalIn, run_underlying Efeg.underlying29, sizeOf, typeInfo, hj, run_sameAddr_same]
  simp only [binOp]
  simp [Op.equal, Op.maxDepth, h 9999]
end Go.Proofs.Yoefew
