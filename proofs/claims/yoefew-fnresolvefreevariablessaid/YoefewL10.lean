import Derived.Test.YoefewL11
namespace Go.Proofs.Yoefew
open Go.RowKit Go.Maps

/-- Block b is a row of cells of type t. -/
def RowT (w : World) (b : Nat) (t : TypeId) : Prop := ∃ c, w.heap[b]? = some (.cells c t)
theorem RowT.ne {w : World} {b b' : Nat} {t t' : TypeId} (h : RowT w b t) (h' : RowT w b' t') (hne : t ≠ t') : b ≠ b' := by
  rintro rfl
  obtain ⟨c, h⟩ := h
  obtain ⟨c', h'⟩ := h'
  rw [h] at h'
  simp at h'
  exact hne h'.2
theorem RowT.ne_map {w : World} {b b' n : Nat} {t : TypeId} {f : List UInt8 → Option Nat} (h : RowT w b t) (h' : MapAt w b' n f) : b ≠ b' := by
  rintro rfl
  obtain ⟨c, h⟩ := h
  obtain ⟨D, ⟨es, cl, hh, _⟩, _⟩ := h'
  rw [h] at hh
  cases hh
theorem TabAt.rowT {w : World} {b mb : Nat} {par : Option Addr} {fr bu : Value} {blk : Bool} {nd md : Int} (h : TabAt w b par blk mb nd md fr bu) : RowT w b 56 := ⟨_, h⟩
theorem SymAt.rowT {w : World} {b : Nat} {name sc : ByteArray} {idx : Int} {la : Bool} (h : SymAt w b name sc idx la) : RowT w b 39 := ⟨_, h⟩
theorem PtrsAt.rowT {w : World} {b n : Nat} {gs : List Nat} (h : PtrsAt w b n gs) : RowT w b 29 := by
  obtain ⟨c, h, _⟩ := h
  exact ⟨c, h⟩
theorem OwnsPtrs.rowT {w : World} {B : Nat} {v : Value} {gs : List Nat} (h : OwnsPtrs w B v gs) {b : Nat} (hb : v.ownBlock = some b) : RowT w b 29 := (h.block hb).2

theorem info9 : (Efeg.prog.info? 9).map (fun i => (i.zero, i.size, i.bytes)) = some (some (.string ⟨#[]⟩), 1, 16) := by kernel_rfl

/-- A slice of strings that owns its row. -/
def OwnsStrs (w : World) (B b cap : Nat) (sn : List ByteArray) : Prop := w.ownsRow B 9 1 (.slice (some ⟨b, 0, none⟩) sn.length cap) sn.length (sn.map Value.string)

theorem OwnsStrs.rowT {w : World} {B b cap : Nat} {sn : List ByteArray} (h : OwnsStrs w B b cap sn) : RowT w b 9 ∧ B ≤ b := by
  obtain ⟨_, h2⟩ := h
  rcases h2 with ⟨h2, _⟩ | ⟨g, cap', cur, hv, hb, hh, _⟩
  · simp at h2
  · simp at hv
    obtain ⟨rfl, _⟩ := hv
    exact ⟨⟨_, hh⟩, hb⟩
theorem OwnsStrs.kept {S : List Nat} {w w' : World} {B b cap : Nat} {sn : List ByteArray} (h : OwnsStrs w B b cap sn) (k : Kept S w w') (hb : b ∉ S) : OwnsStrs w' B b cap sn := by
  obtain ⟨h1, h2⟩ := h
  refine ⟨h1, ?_⟩
  rcases h2 with h2 | ⟨g, cap', cur, hv, hb', hh, r⟩
  · exact .inl h2
  · simp at hv
    obtain ⟨rfl, rfl⟩ := hv
    exact .inr ⟨b, cap, cur, rfl, hb', (k.block b (Array.getElem?_eq_some_iff.1 hh).1 hb).trans hh, r⟩
theorem OwnsStrs.strs {w : World} {B b cap : Nat} {sn : List ByteArray} (h : OwnsStrs w B b cap sn) (hs : ∀ (k : Nat) (p : ByteArray), sn[k]? = some p → p.size ≤ maxLen) : StrsAt w (some ⟨b, 0, none⟩) sn := by
  refine ⟨hs, .inr ⟨b, 0, rfl, ?_, fun k s hk => ?_⟩⟩
  · obtain ⟨⟨c, hc⟩, _⟩ := h.rowT
    exact (Array.getElem?_eq_some_iff.1 hc).1
  · have := World.ownsRow.cells h (g := b) (by simp [Value.ownBlock]) k (.string s) (by simp [hk])
    have hadd : (⟨b, 0, none⟩ : Addr).add k = ⟨b, 0 + k, none⟩ := by unfold Addr.add; split <;> simp_all
    rwa [hadd] at this
theorem OwnsStrs.made (w : World) (B cap : Nat) (hB : B ≤ w.heap.size) (hc : cap ≤ maxLen) : OwnsStrs (w.alloc (.cells (madeCells #[.string ⟨#[]⟩] cap) 9)) B w.heap.size cap [] :=
  World.ownsRow_made w _ cap hB hc (by simp [size_madeCells])

theorem wpList_append_str (w : World) {ops : Array Oper} {rest : List Oper} {o : Oper} {a : Act} {Q : Exit → Act → World → Prop} (hgd : o.guard = none) (s x : Operand)
    (ho : o.op = .call { callee := .builtin .append, args := #[s, x], argTypes := #[33, 33] }) (B b cap : Nat) (sn : List ByteArray) (hs : a.eval s = .slice (some ⟨b, 0, none⟩) sn.length cap) (hown : OwnsStrs w B b cap sn)
    (ab : Nat) (p : ByteArray) (hx : a.eval x = .slice (some ⟨ab, 0, none⟩) 1 1) (hcell : w.cell? ⟨ab, 0, none⟩ = some (.string p)) (hn : sn.length ≤ 10000000) (hB : B ≤ w.heap.size)
    (h : ∀ g cap' w', OwnsStrs w' B g cap' (sn ++ [p]) → Kept [b] w w' → wpList Efeg.prog ops Q rest (a.put o.dst (.slice (some ⟨g, 0, none⟩) (sn.length + 1) cap')) w') :
    wpList Efeg.prog ops Q (o :: rest) a w := by
  obtain ⟨i, hi, hz⟩ := Option.map_eq_some_iff.1 info9
  simp only [Prod.mk.injEq] at hz
  obtain ⟨z1, z2, z3⟩ := hz
  refine wpList_append_own w hgd s x 33 ho B 9 i (.string ⟨#[]⟩) 1 16 Efeg.underlying33 hi z1 z2 z3 rfl (by decide) _ sn.length (sn.map Value.string) hs hown ⟨ab, 0, none⟩ 1 1 [.string p] hx rfl ?_ (by simp [Value.oneCell']) (by unfold maxLen; omega) (by omega) hB ?_
  · intro j u hj
    rw [List.getElem?_singleton] at hj
    split at hj
    · rename_i e
      subst e
      cases hj
      have hadd : (⟨ab, 0, none⟩ : Addr).add 0 = ⟨ab, 0, none⟩ := by unfold Addr.add; simp
      rw [hadd]
      exact hcell
    · cases hj
  · intro v' w' hown' hg _
    have hform := hown'.2
    rcases hform with ⟨_, hnil⟩ | ⟨g, cap', cur, rfl, _, _⟩
    · simp at hnil
    · have e : (sn ++ [p]).length = sn.length + 1 := by simp
      have hO : OwnsStrs w' B g cap' (sn ++ [p]) := by
        unfold OwnsStrs
        rw [e]
        simpa using hown'
      exact h g cap' w' hO (kept_grownBy (Kept.refl _ _) hg (fun y hy => by simp [Value.ownBlock] at hy; subst hy; simp))

theorem look_append (ss t : List ByteArray) (gs : List Nat) : ∀ k, k ≤ ss.length → look (ss ++ t) gs k = look ss gs k
  | 0, _ => rfl
  | k + 1, h => by
    funext key
    simp only [look]
    rw [look_append ss t gs k (by omega), List.getElem?_append_left (by omega)]
theorem lastTo_append (ss t : List ByteArray) (x : ByteArray) : ∀ k, k ≤ ss.length → lastTo (ss ++ t) x k = lastTo ss x k
  | 0, _ => rfl
  | k + 1, h => by
    simp only [lastTo]
    rw [lastTo_append ss t x k (by omega), List.getElem?_append_left (by omega)]
theorem lastIdx_snoc (ss : List ByteArray) (p x : ByteArray) : lastIdx (ss ++ [p]) x = if p = x then (ss.length : Int) else lastIdx ss x := by
  unfold lastIdx
  have e : (ss ++ [p]).length = ss.length + 1 := by simp
  rw [e, lastTo, lastTo_append _ _ _ _ (Nat.le_refl _)]
  simp
theorem NSyms.ext {w : World} {sc : ByteArray} {ss t : List ByteArray} {gs : List Nat} (h : NSyms w sc ss gs) : NSyms w sc (ss ++ t) gs := by
  intro j g hj
  obtain ⟨s, hs, hsy⟩ := h j g hj
  exact ⟨s, by rw [List.getElem?_append_left (List.getElem?_eq_some_iff.1 hs).1]; exact hs, hsy⟩
end Go.Proofs.Yoefew
