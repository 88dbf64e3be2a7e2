import Derived.Test.YoefewT4
import Derived.Test.YoefewStrs
import Derived.Test.YoefewSym
import Derived.Deep.OwnRows
namespace Go.Proofs.Yoefew
open Go.RowKit Go.Maps

theorem info29 : (Efeg.prog.info? 29).map (fun i => (i.zero, i.size, i.bytes)) = some (some (.pointer none), 1, 8) := by kernel_rfl

/-- A row of n pointers to symbols, of which the first ones lead to the blocks on the list. -/
def PtrsAt (w : World) (b n : Nat) (gs : List Nat) : Prop :=
  ∃ c : Array Value, w.heap[b]? = some (.cells c 29) ∧ c.size = n ∧ ∀ (j g : Nat), gs[j]? = some g → c[j]? = some (.pointer (some ⟨g, 0, none⟩))

theorem PtrsAt.lt {w : World} {b n : Nat} {gs : List Nat} (h : PtrsAt w b n gs) : b < w.heap.size := by
  obtain ⟨c, h, _⟩ := h
  exact (Array.getElem?_eq_some_iff.1 h).1
theorem PtrsAt.kept {S : List Nat} {w w' : World} {b n : Nat} {gs : List Nat} (h : PtrsAt w b n gs) (k : Kept S w w') (hb : b ∉ S) : PtrsAt w' b n gs := by
  have hlt := h.lt
  obtain ⟨c, h1, h2⟩ := h
  exact ⟨c, (k.block b hlt hb).trans h1, h2⟩
theorem PtrsAt.made (w : World) (n : Nat) : PtrsAt (w.alloc (.cells (madeCells #[.pointer none] n) 29)) w.heap.size n [] :=
  ⟨_, (MapKept.heap_alloc w _).1, size_madeCells _ _, by simp⟩
theorem PtrsAt.frozen {w : World} {b n : Nat} {gs : List Nat} (h : PtrsAt w b n gs) (i : Nat) : w.frozen? ⟨b, i, none⟩ = false := by
  obtain ⟨c, h, _⟩ := h
  simp [World.frozen?, h]
theorem PtrsAt.old {w : World} {b n : Nat} {gs : List Nat} (h : PtrsAt w b n gs) {i : Nat} (hi : i < n) : ∃ v, w.cell? ⟨b, i, none⟩ = some v := by
  obtain ⟨c, h, hs, _⟩ := h
  exact ⟨c[i], by simp [World.cell?, h, hs, hi]⟩
theorem PtrsAt.cell {w : World} {b n : Nat} {gs : List Nat} (h : PtrsAt w b n gs) {i g : Nat} (hi : gs[i]? = some g) : w.cell? ⟨b, i, none⟩ = some (.pointer (some ⟨g, 0, none⟩)) := by
  obtain ⟨c, h, _, hc⟩ := h
  simp [World.cell?, h, hc i g hi]
theorem PtrsAt.store {w : World} {b n : Nat} {gs : List Nat} (h : PtrsAt w b n gs) (hi : gs.length < n) (g : Nat) : PtrsAt (w.setCell ⟨b, gs.length, none⟩ (.pointer (some ⟨g, 0, none⟩))) b n (gs ++ [g]) := by
  obtain ⟨c, h, hs, hc⟩ := h
  refine ⟨_, heap_setCell_same h _ _, by simpa using hs, fun j x hj => ?_⟩
  by_cases e : j = gs.length
  · subst e
    simp at hj
    subst hj
    simp [hs, hi]
  · have hj' : gs[j]? = some x := by
      rw [List.getElem?_append] at hj
      split at hj
      · exact hj
      · rw [List.getElem?_singleton] at hj
        split at hj
        · omega
        · cases hj
    rw [Array.getElem?_setIfInBounds_ne (by omega)]
    exact hc j x hj'

section
variable {w : World} {b g : Nat} {name sc : ByteArray} {idx : Int} {la : Bool}
theorem SymAt.ne_tab {mb : Nat} {par : Option Addr} {fr bu : Value} {blk : Bool} {nd md : Int} (h : SymAt w g name sc idx la) (h' : TabAt w b par blk mb nd md fr bu) : g ≠ b := by
  intro e; subst e; unfold SymAt at h; unfold TabAt at h'; rw [h] at h'; cases h'
theorem SymAt.ne_map {n : Nat} {f : List UInt8 → Option Nat} (h : SymAt w g name sc idx la) (h' : MapAt w b n f) : g ≠ b := by
  intro e; subst e; obtain ⟨D, ⟨es, cl, hh, _⟩, _⟩ := h'; unfold SymAt at h; rw [h] at hh; cases hh
theorem SymAt.ne_ptrs {n : Nat} {gs : List Nat} (h : SymAt w g name sc idx la) (h' : PtrsAt w b n gs) : g ≠ b := by
  intro e; subst e; obtain ⟨c, hh, _⟩ := h'; unfold SymAt at h; rw [h] at hh; simp at hh
end
theorem PtrsAt.ne_tab {w : World} {b p n : Nat} {gs : List Nat} {mb : Nat} {par : Option Addr} {fr bu : Value} {blk : Bool} {nd md : Int} (h : PtrsAt w p n gs) (h' : TabAt w b par blk mb nd md fr bu) : p ≠ b := by
  intro e; subst e; obtain ⟨c, hh, _⟩ := h; unfold TabAt at h'; rw [hh] at h'; simp at h'
theorem PtrsAt.ne_map {w : World} {b p n m : Nat} {gs : List Nat} {f : List UInt8 → Option Nat} (h : PtrsAt w p n gs) (h' : MapAt w b m f) : p ≠ b := by
  intro e; subst e; obtain ⟨c, hh, _⟩ := h; obtain ⟨D, ⟨es, cl, hh', _⟩, _⟩ := h'; rw [hh] at hh'; cases hh'

/-- Symbols of one scope, numbered by their places on the list. -/
def Syms (w : World) (sc : ByteArray) (gs : List Nat) : Prop := ∀ (j g : Nat), gs[j]? = some g → ∃ name, SymAt w g name sc j false
theorem Syms.nil (w : World) (sc : ByteArray) : Syms w sc [] := by intro j g h; simp at h
theorem Syms.kept {S : List Nat} {w w' : World} {sc : ByteArray} {gs : List Nat} (h : Syms w sc gs) (k : Kept S w w') (hS : ∀ (g : Nat) (name : ByteArray) (i : Int), SymAt w g name sc i false → g ∉ S) : Syms w' sc gs := by
  intro j g hj
  obtain ⟨name, hs⟩ := h j g hj
  exact ⟨name, hs.kept k (hS g name _ hs)⟩
theorem Syms.snoc {w : World} {sc : ByteArray} {gs : List Nat} (h : Syms w sc gs) {g : Nat} {name : ByteArray} (hs : SymAt w g name sc (gs.length : Nat) false) : Syms w sc (gs ++ [g]) := by
  intro j x hj
  rw [List.getElem?_append] at hj
  split at hj
  · exact h j x hj
  · rw [List.getElem?_singleton] at hj
    split at hj
    · have e : j = gs.length := by omega
      subst e
      cases hj
      exact ⟨name, hs⟩
    · cases hj

/-- What a table knows after k definitions: the latest of each name. -/
def look (ss : List ByteArray) (gs : List Nat) : Nat → List UInt8 → Option Nat
  | 0, _ => none
  | k + 1, key => if ss[k]?.map (fun s => s.data.toList) = some key then gs[k]? else look ss gs k key

theorem look_snoc (ss : List ByteArray) (gs : List Nat) (g : Nat) : ∀ k, k ≤ gs.length → look ss (gs ++ [g]) k = look ss gs k
  | 0, _ => rfl
  | k + 1, h => by
    funext key
    simp only [look]
    rw [look_snoc ss gs g k (by omega), List.getElem?_append_left (by omega)]

theorem look_upd {ss : List ByteArray} {gs : List Nat} {s : ByteArray} {g : Nat} (hs : ss[gs.length]? = some s) : upd (look ss gs gs.length) s g = look ss (gs ++ [g]) (gs.length + 1) := by
  funext key
  simp only [look, upd, hs, Option.map_some, look_snoc ss gs g gs.length (Nat.le_refl _)]
  by_cases e : key = s.data.toList
  · subst e; simp
  · rw [if_neg e, if_neg (by intro h; cases h; exact e rfl)]

theorem look_last (ss : List ByteArray) (gs : List Nat) (x : ByteArray) : ∀ k, k ≤ ss.length → (lastTo ss x k < 0 ∧ look ss gs k x.data.toList = none) ∨ (∃ j : Nat, j < k ∧ lastTo ss x k = j ∧ look ss gs k x.data.toList = gs[j]?)
  | 0, _ => .inl ⟨by simp [lastTo], rfl⟩
  | k + 1, h => by
    obtain ⟨y, e⟩ : ∃ y, ss[k]? = some y := ⟨ss[k], by simp⟩
    by_cases hx : y = x
    · right
      subst hx
      exact ⟨k, by omega, by unfold lastTo; rw [if_pos e], by simp only [look, e, Option.map_some, if_true]⟩
    · have h1 : lastTo ss x (k + 1) = lastTo ss x k := by
        have hne : ¬ ss[k]? = some x := by rw [e]; intro hh; injection hh with hh; exact hx hh
        rw [lastTo, if_neg hne]
      have h2 : look ss gs (k + 1) x.data.toList = look ss gs k x.data.toList := by
        simp only [look, e, Option.map_some]
        rw [if_neg (by intro hh; injection hh with hh; exact data_ne hx hh)]
      rw [h1, h2]
      rcases look_last ss gs x k (by omega) with hh | ⟨j, hj, hh⟩
      · exact .inl hh
      · exact .inr ⟨j, by omega, hh⟩
end Go.Proofs.Yoefew
