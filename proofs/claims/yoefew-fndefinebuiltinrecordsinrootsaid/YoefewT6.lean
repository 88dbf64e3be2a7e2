import Derived.Test.YoefewPtrs
import Derived.OwnWalk
namespace Go.Proofs.Yoefew
open Go.RowKit Go.Maps

/-- The value of a pointer to a symbol. -/
abbrev sptr (g : Nat) : Value := .pointer (some ⟨g, 0, none⟩)

/-- A slice of pointers to symbols that owns its row. -/
def OwnsPtrs (w : World) (B : Nat) (v : Value) (gs : List Nat) : Prop := w.ownsRow B 29 1 v gs.length (gs.map sptr)

theorem OwnsPtrs.nil (w : World) (B : Nat) : OwnsPtrs w B (.slice none 0 0) [] := World.ownsRow_nil w B 29 1

theorem OwnsPtrs.form {w : World} {B : Nat} {v : Value} {gs : List Nat} (h : OwnsPtrs w B v gs) : (v = .slice none 0 0 ∧ gs = []) ∨ ∃ g cap cur, v = .slice (some ⟨g, 0, none⟩) gs.length cap ∧ B ≤ g ∧ w.heap[g]? = some (.cells cur 29) := by
  obtain ⟨h1, h2⟩ := h
  rcases h2 with ⟨rfl, hn⟩ | ⟨g, cap, cur, rfl, hb, hh, _⟩
  · left
    refine ⟨rfl, ?_⟩
    cases gs with
    | nil => rfl
    | cons a r => simp at hn
  · exact .inr ⟨g, cap, cur, rfl, hb, hh⟩

theorem OwnsPtrs.kept {S : List Nat} {w w' : World} {B : Nat} {v : Value} {gs : List Nat} (h : OwnsPtrs w B v gs) (k : Kept S w w') (hv : ∀ b, v.ownBlock = some b → b ∉ S) : OwnsPtrs w' B v gs := by
  obtain ⟨h1, h2⟩ := h
  refine ⟨h1, ?_⟩
  rcases h2 with h2 | ⟨g, cap, cur, rfl, hb, hh, r⟩
  · exact .inl h2
  · exact .inr ⟨g, cap, cur, rfl, hb, (k.block g (Array.getElem?_eq_some_iff.1 hh).1 (hv g rfl)).trans hh, r⟩

/-- The block of an owned slice is a row of pointers: no table, no symbol, no map. -/
theorem OwnsPtrs.block {w : World} {B : Nat} {v : Value} {gs : List Nat} (h : OwnsPtrs w B v gs) {b : Nat} (hb : v.ownBlock = some b) : B ≤ b ∧ ∃ cur, w.heap[b]? = some (.cells cur 29) := by
  rcases h.form with ⟨rfl, _⟩ | ⟨g, cap, cur, rfl, h1, h2⟩
  · simp [Value.ownBlock] at hb
  · simp [Value.ownBlock] at hb
    subst hb
    exact ⟨h1, cur, h2⟩

theorem OwnsPtrs.cell {w : World} {B : Nat} {g cap n : Nat} {gs : List Nat} (h : OwnsPtrs w B (.slice (some ⟨g, 0, none⟩) n cap) gs) {j x : Nat} (hj : gs[j]? = some x) : w.cell? ⟨g, j, none⟩ = some (sptr x) := by
  have := World.ownsRow.cells h (g := g) (by simp [Value.ownBlock]) j (sptr x) (by simp [hj])
  have hadd : (⟨g, 0, none⟩ : Addr).add j = ⟨g, j, none⟩ := by unfold Addr.add; split <;> simp_all
  rwa [hadd] at this

theorem wpList_append_sym (w : World) {ops : Array Oper} {rest : List Oper} {o : Oper} {a : Act} {Q : Exit → Act → World → Prop} (hgd : o.guard = none) (s x : Operand)
    (ho : o.op = .call { callee := .builtin .append, args := #[s, x], argTypes := #[27, 27] }) (B : Nat) (v : Value) (gs : List Nat) (hs : a.eval s = v) (hown : OwnsPtrs w B v gs)
    (ab sb : Nat) (hx : a.eval x = .slice (some ⟨ab, 0, none⟩) 1 1) (hcell : w.cell? ⟨ab, 0, none⟩ = some (sptr sb)) (hn : gs.length ≤ 10000000) (hB : B ≤ w.heap.size)
    (h : ∀ g cap w', OwnsPtrs w' B (.slice (some ⟨g, 0, none⟩) (gs.length + 1) cap) (gs ++ [sb]) → w.grownBy w' v.ownBlock → wpList Efeg.prog ops Q rest (a.put o.dst (.slice (some ⟨g, 0, none⟩) (gs.length + 1) cap)) w') :
    wpList Efeg.prog ops Q (o :: rest) a w := by
  obtain ⟨i, hi, hz⟩ := Option.map_eq_some_iff.1 info29
  simp only [Prod.mk.injEq] at hz
  obtain ⟨z1, z2, z3⟩ := hz
  refine wpList_append_own w hgd s x 27 ho B 29 i (.pointer none) 1 8 Efeg.underlying27 hi z1 z2 z3 rfl (by decide) v gs.length (gs.map sptr) hs hown ⟨ab, 0, none⟩ 1 1 [sptr sb] hx rfl ?_ (by simp [Value.oneCell']) (by unfold maxLen; omega) (by omega) hB ?_
  · intro j u hj
    rw [List.getElem?_singleton] at hj
    split at hj
    · rename_i e
      subst e
      cases hj
      have hadd : (⟨ab, 0, none⟩ : Addr).add 0 = ⟨ab, 0, none⟩ := by unfold Addr.add; simp
      rw [hadd]
      exact hcell
    · cases hj
  · intro v' w' hown' hg _
    have hO : OwnsPtrs w' B v' (gs ++ [sb]) := by
      unfold OwnsPtrs
      simpa using hown'
    rcases hO.form with ⟨_, hnil⟩ | ⟨g, cap, cur, rfl, _, _⟩
    · simp at hnil
    · have e : (gs ++ [sb]).length = gs.length + 1 := by simp
      rw [e] at hO ⊢
      exact h g cap w' hO hg
end Go.Proofs.Yoefew
