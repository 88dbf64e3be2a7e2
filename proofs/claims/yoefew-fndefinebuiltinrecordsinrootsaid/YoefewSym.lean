import Derived.Test.YoefewBase
namespace Go.Proofs.Yoefew
open Go.RowKit Go.Maps
section
variable {w : World} {b : Nat} {name sc : ByteArray} {idx : Int} {la : Bool}
theorem SymAt.c0 (h : SymAt w b name sc idx la) : w.cell? ⟨b, 0, none⟩ = some (.string name) := by
  unfold SymAt at h; simp [World.cell?, h]
theorem SymAt.c1 (h : SymAt w b name sc idx la) : w.cell? ⟨b, 1, none⟩ = some (.string sc) := by
  unfold SymAt at h; simp [World.cell?, h]
theorem SymAt.c2 (h : SymAt w b name sc idx la) : w.cell? ⟨b, 2, none⟩ = some (.int .i64 idx) := by
  unfold SymAt at h; simp [World.cell?, h]
theorem SymAt.c3 (h : SymAt w b name sc idx la) : w.cell? ⟨b, 3, none⟩ = some (.bool la) := by
  unfold SymAt at h; simp [World.cell?, h]
end
end Go.Proofs.Yoefew
