/-
  A slice of definitions (a struct of an int, a string and a byte) among the arguments, opened.
-/
import Derived.Test.YoefewFrame
import Derived.Test.YoefewL8
import Derived.Deep.Slices
import Derived.Deep.Strs
namespace Go.Proofs.Yoefew
open Go.ChangeShapes Go.WideShapes Go.ChangeAt Go.RowKit Go.Deep

theorem cells46 : Efeg.prog.cellsOf 46 = 3 := by kernel_rfl
theorem cells3 : Efeg.prog.cellsOf 3 = 1 := by kernel_rfl
theorem cells5 : Efeg.prog.cellsOf 5 = 1 := by kernel_rfl

theorem add_addr (a : Addr) (i j : Nat) : (a.add i).add j = a.add (i + j) := Go.Deep.add_add a i j

theorem defs_of_trod {H : Type} {enc : TypeId × Value → H} {W : World} {sp : Nat → Bool} {hd : Bool} {a : Option Addr} {len cap : Nat} {d : DataW H} {p : List MemPlace}
    (h : DataW.Trod enc Efeg.prog W 0 sp hd 43 (.slice a len cap) d p) : ∃ ds : List (Int × ByteArray × Int), len = ds.length ∧ DefsAt W a ds ∧ ds.length ≤ maxLen := by
  obtain ⟨fuel, hf⟩ := h
  rcases open_slice Efeg.underlying43 hf with ⟨hcs, _⟩ | ⟨x, l, c, m, n, D, Pl, hcs, _, hl, hm, hmm, _, hel⟩
  · simp [Value.cells] at hcs
    obtain ⟨rfl, rfl, rfl⟩ := hcs
    exact ⟨[], rfl, ⟨by simp, .inl rfl⟩, by simp⟩
  · simp [Value.cells] at hcs
    obtain ⟨rfl, rfl, rfl⟩ := hcs
    have hlm : len ≤ m := by rw [hmm]; split <;> omega
    rw [cells46] at hel
    have each : ∀ i, i < len → ∃ e : Int × ByteArray × Int, (e.2.1.size ≤ maxLen ∧ 0 ≤ e.2.2 ∧ e.2.2 ≤ 255) ∧ W.cell? (x.add (i * 3)) = some (.int .i64 e.1) ∧ W.cell? (x.add (i * 3 + 1)) = some (.string e.2.1) ∧ W.cell? (x.add (i * 3 + 2)) = some (.int .u8 e.2.2) := by
      intro i hi
      obtain ⟨cs, hcells, ht⟩ := hel i (by omega)
      obtain ⟨_, hlen, hcell⟩ := World.cells?_some hcells
      obtain ⟨y0, y1, y2, n', _, _, r0, r1, r2⟩ := trod_struct3 Efeg.underlying46 ht
      match cs, hlen with
      | [v0, v1, v2], _ =>
        simp [cells3, cells9, cells5] at r0 r1 r2
        obtain ⟨i0, e0, _, _⟩ := DataW.trod_int Efeg.underlying3 r0
        obtain ⟨s0, e1, _, hs0⟩ := DataW.trod_string Efeg.underlying9 r1
        obtain ⟨q0, e2, _, hq0⟩ := DataW.trod_int Efeg.underlying5 r2
        simp at e0 e1 e2
        subst e0 e1 e2
        have g0 := hcell 0 (by omega)
        have g1 := hcell 1 (by omega)
        have g2 := hcell 2 (by omega)
        rw [add_addr] at g0 g1 g2
        exact ⟨(i0, s0, q0), ⟨hs0, (bounds_u8 hq0).1, (bounds_u8 hq0).2⟩, by simpa using g0, by simpa using g1, by simpa using g2⟩
    obtain ⟨F, hF⟩ := choose_lt (α := Int × ByteArray × Int) (p := fun i e => (e.2.1.size ≤ maxLen ∧ 0 ≤ e.2.2 ∧ e.2.2 ≤ 255) ∧ W.cell? (x.add (i * 3)) = some (.int .i64 e.1) ∧ W.cell? (x.add (i * 3 + 1)) = some (.string e.2.1) ∧ W.cell? (x.add (i * 3 + 2)) = some (.int .u8 e.2.2)) each
    have get : ∀ (k : Nat) (e : Int × ByteArray × Int), ((List.range len).map F)[k]? = some e → k < len ∧ e = F k := by
      intro k e hk
      have h1 := (List.getElem?_eq_some_iff.1 hk).1
      simp at h1
      simp [h1] at hk
      exact ⟨h1, hk.symm⟩
    refine ⟨(List.range len).map F, by simp, ⟨fun k e hk => ?_, ?_⟩, by simp; omega⟩
    · obtain ⟨h1, rfl⟩ := get k e hk
      exact (hF k h1).1
    · rcases Nat.eq_zero_or_pos len with h0 | h0
      · left
        subst h0
        rfl
      · right
        have c0 := (hF 0 h0).2.1
        rw [Nat.zero_mul] at c0
        obtain ⟨b, off, rfl⟩ := addr_of_cell c0
        refine ⟨b, off, rfl, ?_, fun k e hk => ?_⟩
        · have := World.block_lt_of_cell? W _ c0
          rw [addr_add] at this
          exact this
        · obtain ⟨h1, rfl⟩ := get k e hk
          obtain ⟨_, q0, q1, q2⟩ := hF k h1
          rw [addr_add] at q0 q1 q2
          exact ⟨q0, by rw [Nat.add_assoc]; exact q1, by rw [Nat.add_assoc]; exact q2⟩
end Go.Proofs.Yoefew
