/-
  A slice of bools among the arguments, opened.
-/
import Derived.Test.YoefewFrame
import Derived.Test.YoefewL9
import Derived.Deep.Grids
namespace Go.Proofs.Yoefew
open Go.ChangeShapes Go.WideShapes Go.ChangeAt Go.RowKit Go.Deep

theorem cells4 : Efeg.prog.cellsOf 4 = 1 := by kernel_rfl

theorem bools_of_trod {H : Type} {enc : TypeId × Value → H} {W : World} {hd : Bool} {a : Option Addr} {len cap : Nat} {d : DataW H} {p : List MemPlace}
    (h : DataW.Trod enc Efeg.prog W 0 (fun _ => true) hd 49 (.slice a len cap) d p) : ∃ qs : List Bool, len = qs.length ∧ BoolsAt W a qs ∧ qs.length ≤ maxLen := by
  obtain ⟨fuel, hf⟩ := h
  rcases open_bools Efeg.underlying49 Efeg.underlying4 cells4 hf with ⟨hcs, _⟩ | ⟨x, l, c, B, hcs, _, hl, hm, _, hcell⟩
  · simp [Value.cells] at hcs
    obtain ⟨rfl, rfl, rfl⟩ := hcs
    exact ⟨[], rfl, .inl rfl, by simp⟩
  · simp [Value.cells] at hcs
    obtain ⟨rfl, rfl, rfl⟩ := hcs
    refine ⟨(List.range len).map B, by simp, ?_, by simp; omega⟩
    rcases Nat.eq_zero_or_pos len with h0 | h0
    · left
      subst h0
      rfl
    · right
      have c0 := hcell 0 (by omega)
      obtain ⟨b, off, rfl⟩ := addr_of_cell c0
      refine ⟨b, off, rfl, ?_, fun k q hk => ?_⟩
      · have := World.block_lt_of_cell? W _ c0
        rw [addr_add] at this
        exact this
      · have hk1 := (List.getElem?_eq_some_iff.1 hk).1
        simp at hk1
        have ck := hcell k (by omega)
        rw [addr_add] at ck
        rw [ck]
        simp [hk1] at hk
        rw [hk]
end Go.Proofs.Yoefew
