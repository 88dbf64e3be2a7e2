import Derived.Test.YoefewPtrs
namespace Go.Proofs.Yoefew
open Go.RowKit Go.Maps

/-- A root table in which the first k names are defined, and the row in which the first m symbols are kept. -/
def S5 (w : World) (r mr pb : Nat) (ss : List ByteArray) (k : Nat) (gs : List Nat) (ms : List Nat) (wr : World) : Prop :=
  r ≠ mr ∧ w.heap.size ≤ r ∧ w.heap.size ≤ mr ∧ w.heap.size ≤ pb ∧ gs.length = k ∧ TabAt wr r none false mr k k (.slice none 0 0) (.slice none 0 0) ∧ MapAt wr mr k (look ss gs k) ∧
    Syms wr ⟨#[71, 76, 79, 66, 65, 76]⟩ gs ∧ PtrsAt wr pb ss.length ms ∧ Below w.heap.size w wr

section
variable {w wr : World} {r mr pb k : Nat} {ss : List ByteArray} {gs ms : List Nat}

theorem S5.below (h : S5 w r mr pb ss k gs ms wr) : Below w.heap.size w wr := by
  obtain ⟨_, _, _, _, _, _, _, _, _, hb⟩ := h
  exact hb
theorem S5.tab (h : S5 w r mr pb ss k gs ms wr) : TabAt wr r none false mr k k (.slice none 0 0) (.slice none 0 0) := by
  obtain ⟨_, _, _, _, _, ht, _⟩ := h
  exact ht
theorem S5.ptrs (h : S5 w r mr pb ss k gs ms wr) : PtrsAt wr pb ss.length ms := by
  obtain ⟨_, _, _, _, _, _, _, _, hp, _⟩ := h
  exact hp
theorem S5.drewN (h : S5 w r mr pb ss k gs ms wr) (n : Nat) : S5 w r mr pb ss k gs ms (wr.drewN n) := by
  obtain ⟨h1, h2, h3, h4, h5, h6, h7, h8, h9, hb⟩ := h
  exact ⟨h1, h2, h3, h4, h5, h6, h7, h8, h9, hb.trans ⟨rfl, rfl, rfl, Nat.le_refl _, fun _ _ => rfl⟩⟩

theorem S5.define {s : ByteArray} (h : S5 w r mr pb ss k gs ms wr) (hs : ss[k]? = some s) (hsz : s.size ≤ maxLen) (hk : k ≤ 10000000) :
    Calls Efeg.prog 22 #[.pointer (some ⟨r, 0, none⟩), .string s] wr fun e w' => ∃ sb, e = .returned (.pointer (some ⟨sb, 0, none⟩)) ∧ SymAt w' sb s ⟨#[71, 76, 79, 66, 65, 76]⟩ k false ∧ S5 w r mr pb ss (k + 1) (gs ++ [sb]) ms w' := by
  obtain ⟨h1, h2, h3, h4, rfl, h6, h7, h8, h9, hb⟩ := h
  refine (define_root h6 h7 hsz (by unfold maxLen; omega) h1 (by omega) (by omega)).mono ?_
  rintro e w' ⟨sb, rfl, hsb, hsy, t', m', k'⟩
  have e1 : max (gs.length : Int) (gs.length + 1) = ((gs.length + 1 : Nat) : Int) := by omega
  rw [e1] at t'
  rw [look_upd hs] at m'
  refine ⟨sb, rfl, hsy, h1, h2, h3, h4, by simp, t', m', ?_, h9.kept k' ?_, hb.trans (k'.below hb.size (by simp; omega))⟩
  · refine Syms.snoc (h8.kept k' fun g name i hg => ?_) hsy
    have a1 := hg.ne_tab h6
    have a2 := hg.ne_map h7
    simp; exact ⟨a1, a2⟩
  · have a1 := h9.ne_tab h6
    have a2 := h9.ne_map h7
    simp; exact ⟨a1, a2⟩

theorem S5.put {g : Nat} (h : S5 w r mr pb ss (k + 1) gs ms wr) (hms : ms.length = k) (hk : k < ss.length) : S5 w r mr pb ss (k + 1) gs (ms ++ [g]) (wr.setCell ⟨pb, k, none⟩ (.pointer (some ⟨g, 0, none⟩))) := by
  obtain ⟨h1, h2, h3, h4, h5, h6, h7, h8, h9, hb⟩ := h
  subst hms
  have k' : Kept [pb] wr (wr.setCell ⟨pb, ms.length, none⟩ (.pointer (some ⟨g, 0, none⟩))) := (Kept.refl _ _).setCell (by simp) _
  refine ⟨h1, h2, h3, h4, h5, h6.kept k' ?_, h7.kept k' ?_, h8.kept k' (fun x name i hg => ?_), h9.store hk g, hb.trans (k'.below hb.size (by simp; omega))⟩
  · simpa using (h9.ne_tab h6).symm
  · simpa using (h9.ne_map h7).symm
  · simpa using hg.ne_ptrs h9

/-- Behind the last definition: a name is found, or it was never defined. -/
theorem S5.resolve (h : S5 w r mr pb ss ss.length gs gs wr) (x : ByteArray) (hx : x.size ≤ maxLen) :
    (lastIdx ss x < 0 ∧ Calls Efeg.prog 18 #[.pointer (some ⟨r, 0, none⟩), .string x, .bool false] wr fun e w' => e = .returned (.tuple #[.pointer none, .int .i64 0, .bool false]) ∧ wr = w') ∨
    (∃ j g : Nat, lastIdx ss x = j ∧ j < ss.length ∧ wr.cell? ⟨pb, j, none⟩ = some (.pointer (some ⟨g, 0, none⟩)) ∧
      Calls Efeg.prog 18 #[.pointer (some ⟨r, 0, none⟩), .string x, .bool false] wr fun e w' => e = .returned (.tuple #[.pointer (some ⟨g, 0, none⟩), .int .i64 0, .bool true]) ∧ wr = w') := by
  obtain ⟨h1, h2, h3, h4, h5, h6, h7, h8, h9, hb⟩ := h
  rcases look_last ss gs x ss.length (Nat.le_refl _) with ⟨hl, hn⟩ | ⟨j, hj, hl, hn⟩
  · exact .inl ⟨hl, resolve_root_none h6 h7 hx hn false⟩
  · have hg : gs[j]? = some gs[j] := by simp
    obtain ⟨name, hs⟩ := h8 j _ hg
    exact .inr ⟨j, gs[j], hl, hj, h9.cell hg, resolve_hit h6 h7 hx (hn.trans hg) hs false (.inl (by decide +kernel))⟩

theorem last_of_get {s : ByteArray} {i : Nat} (h : ss[i]? = some s) : ∀ k, i < k → k ≤ ss.length → 0 ≤ lastTo ss s k
  | 0, h', _ => by omega
  | k + 1, h', hk => by
    unfold lastTo
    split
    · omega
    · rename_i hne
      by_cases e : i = k
      · subst e; exact absurd h hne
      · exact last_of_get h k (by omega) (by omega)
end
end Go.Proofs.Yoefew
