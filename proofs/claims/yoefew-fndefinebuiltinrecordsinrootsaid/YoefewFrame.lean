/-
  What the rows' frames share: a slice of strings among the arguments, opened.
-/
import Derived.Test.YoefewStrs
import Derived.ProofKit
import Derived.OpenShut
import Derived.ChangeOld
import Derived.Below
import Derived.SliceStrings
namespace Go.Proofs.Yoefew
open Go.ChangeShapes Go.WideShapes Go.ChangeAt Go.RowKit

theorem own : ownKnob Efeg.prog.godebug = none := by kernel_rfl
theorem laidOut : laidOutB Efeg.prog = true := by kernel_rfl
theorem cells9 : Efeg.prog.cellsOf 9 = 1 := by kernel_rfl

theorem addr_of_cell {w : World} {a : Addr} {v : Value} (h : w.cell? (a.add 0) = some v) : ∃ b off, a = ⟨b, off, none⟩ := by
  obtain ⟨b, off, sp⟩ := a
  cases sp with
  | none => exact ⟨b, off, rfl⟩
  | some x =>
    exfalso
    simp only [World.cell?, Addr.add] at h
    split at h <;> simp at h

theorem addr_add (b off i : Nat) : (⟨b, off, none⟩ : Addr).add i = ⟨b, off + i, none⟩ := by
  unfold Addr.add
  split <;> simp_all

theorem strs_of_trod {H : Type} {enc : TypeId × Value → H} {W : World} {sp : Nat → Bool} {hd : Bool} {a : Option Addr} {len cap : Nat} {d : DataW H} {p : List MemPlace}
    (h : DataW.Trod enc Efeg.prog W 0 sp hd 33 (.slice a len cap) d p) : ∃ ss : List ByteArray, len = ss.length ∧ StrsAt W a ss ∧ ss.length ≤ maxLen := by
  obtain ⟨fuel, hf⟩ := h
  rcases open_strings Efeg.underlying33 Efeg.underlying9 cells9 hf with ⟨hcs, _⟩ | ⟨x, l, c, zs, hcs, _, hl, hm, hz, _, hcell, hwz⟩
  · simp [Value.cells] at hcs
    obtain ⟨rfl, rfl, rfl⟩ := hcs
    exact ⟨[], rfl, ⟨by simp, .inl rfl⟩, by simp⟩
  · simp [Value.cells] at hcs
    obtain ⟨rfl, rfl, rfl⟩ := hcs
    have hlen : len ≤ zs.length := by rw [hz]; split <;> omega
    have hmin : (zs.take len).length = len := by simp; omega
    have hget : ∀ (k : Nat) (s : ByteArray), (zs.take len)[k]? = some s → k < len ∧ zs[k]? = some s := by
      intro k s hk
      have h1 := (List.getElem?_eq_some_iff.1 hk).1
      rw [hmin] at h1
      rw [List.getElem?_take_of_lt h1] at hk
      exact ⟨h1, hk⟩
    refine ⟨zs.take len, hmin.symm, ⟨fun k s hk => hwz s (List.mem_of_getElem? (hget k s hk).2), ?_⟩, by rw [hmin]; omega⟩
    rcases Nat.eq_zero_or_pos len with h0 | h0
    · left
      subst h0
      simp
    · right
      have c0 := hcell 0 (by omega)
      obtain ⟨b, off, rfl⟩ := addr_of_cell c0
      refine ⟨b, off, rfl, ?_, fun k s hk => ?_⟩
      · have := World.block_lt_of_cell? W _ c0
        rw [addr_add] at this
        exact this
      · obtain ⟨hk1, hk2⟩ := hget k s hk
        have ck := hcell k (by omega)
        rw [addr_add] at ck
        rw [ck]
        simp [hk2]
end Go.Proofs.Yoefew
