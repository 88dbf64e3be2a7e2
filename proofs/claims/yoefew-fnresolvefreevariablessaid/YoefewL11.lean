import Derived.Test.YoefewL5
import Derived.Test.YoefewT9
namespace Go.Proofs.Yoefew
open Go.RowKit Go.Maps

/-- Symbols of one scope that bear the names of the list, numbered by their places. -/
def NSyms (w : World) (sc : ByteArray) (ss : List ByteArray) (gs : List Nat) : Prop := ∀ (j g : Nat), gs[j]? = some g → ∃ s, ss[j]? = some s ∧ SymAt w g s sc j false
theorem NSyms.nil (w : World) (sc : ByteArray) (ss : List ByteArray) : NSyms w sc ss [] := by intro j g h; simp at h
theorem NSyms.kept {S : List Nat} {w w' : World} {sc : ByteArray} {ss : List ByteArray} {gs : List Nat} (h : NSyms w sc ss gs) (k : Kept S w w') (hS : ∀ (g : Nat) (name : ByteArray) (i : Int), SymAt w g name sc i false → g ∉ S) : NSyms w' sc ss gs := by
  intro j g hj
  obtain ⟨name, hn, hs⟩ := h j g hj
  exact ⟨name, hn, hs.kept k (hS g name _ hs)⟩
theorem NSyms.snoc {w : World} {sc : ByteArray} {ss : List ByteArray} {gs : List Nat} (h : NSyms w sc ss gs) {g : Nat} {s : ByteArray} (hn : ss[gs.length]? = some s) (hs : SymAt w g s sc (gs.length : Nat) false) : NSyms w sc ss (gs ++ [g]) := by
  intro j x hj
  rw [List.getElem?_append] at hj
  split at hj
  · exact h j x hj
  · rw [List.getElem?_singleton] at hj
    split at hj
    · have e : j = gs.length := by omega
      subst e
      cases hj
      exact ⟨s, hn, hs⟩
    · cases hj

theorem last_get (ss : List ByteArray) (x : ByteArray) : ∀ (k j : Nat), lastTo ss x k = j → ss[j]? = some x
  | 0, j, h => by simp [lastTo] at h
  | k + 1, j, h => by
    unfold lastTo at h
    split at h
    · have : j = k := by omega
      subst this
      assumption
    · exact last_get ss x k j h

theorem S5.kept {S : List Nat} {w wr w' : World} {r mr pb k : Nat} {ss : List ByteArray} {gs ms : List Nat} (h : S5 w r mr pb ss k gs ms wr) (kp : Kept S wr w') (hS : ∀ x ∈ S, w.heap.size ≤ x) (h1 : r ∉ S) (h2 : mr ∉ S) (h3 : pb ∉ S)
    (h4 : ∀ (g : Nat) (name : ByteArray) (i : Int), SymAt wr g name ⟨#[71, 76, 79, 66, 65, 76]⟩ i false → g ∉ S) : S5 w r mr pb ss k gs ms w' := by
  obtain ⟨a1, a2, a3, a4, a5, a6, a7, a8, a9, hb⟩ := h
  exact ⟨a1, a2, a3, a4, a5, a6.kept kp h1, a7.kept kp h2, a8.kept kp h4, a9.kept kp h3, hb.trans (kp.below hb.size hS)⟩

/-- A function's table over r in which the first k names are defined, and the row in which the first symbols are kept. -/
def T11 (w : World) (r fb mf qb : Nat) (ss : List ByteArray) (k : Nat) (ls ms : List Nat) (wr : World) : Prop :=
  fb ≠ mf ∧ w.heap.size ≤ fb ∧ w.heap.size ≤ mf ∧ w.heap.size ≤ qb ∧ ls.length = k ∧ TabAt wr fb (some ⟨r, 0, none⟩) false mf k k (.slice none 0 0) (.slice none 0 0) ∧ MapAt wr mf k (look ss ls k) ∧
    NSyms wr ⟨#[76, 79, 67, 65, 76]⟩ ss ls ∧ PtrsAt wr qb ss.length ms ∧ ∀ (j g : Nat), ls[j]? = some g → w.heap.size ≤ g

theorem SymAt.set3 {w : World} {b : Nat} {name sc : ByteArray} {idx : Int} {la la' : Bool} (h : SymAt w b name sc idx la) : SymAt (w.setCell ⟨b, 3, none⟩ (.bool la')) b name sc idx la' := heap_setCell_same h 3 _
theorem below_drewN {B : Nat} {w wr : World} (h : Below B w wr) (n : Nat) : Below B w (wr.drewN n) := h.trans ⟨rfl, rfl, rfl, Nat.le_refl _, fun _ _ => rfl⟩

section
variable {w wr : World} {r fb mf qb k : Nat} {ss : List ByteArray} {ls ms : List Nat}

theorem T11.kept {S : List Nat} {w' : World} (h : T11 w r fb mf qb ss k ls ms wr) (kp : Kept S wr w') (h1 : fb ∉ S) (h2 : mf ∉ S) (h3 : qb ∉ S)
    (h4 : ∀ (g : Nat) (name : ByteArray) (i : Int), SymAt wr g name ⟨#[76, 79, 67, 65, 76]⟩ i false → g ∉ S) : T11 w r fb mf qb ss k ls ms w' := by
  obtain ⟨a1, a2, a3, a4, a5, a6, a7, a8, a9, a10⟩ := h
  exact ⟨a1, a2, a3, a4, a5, a6.kept kp h1, a7.kept kp h2, a8.kept kp h4, a9.kept kp h3, a10⟩

theorem T11.tab (h : T11 w r fb mf qb ss k ls ms wr) : TabAt wr fb (some ⟨r, 0, none⟩) false mf k k (.slice none 0 0) (.slice none 0 0) := by
  obtain ⟨a1, a2, a3, a4, a5, a6, a7, a8, a9, a10⟩ := h
  exact a6
theorem T11.map (h : T11 w r fb mf qb ss k ls ms wr) : MapAt wr mf k (look ss ls k) := by
  obtain ⟨a1, a2, a3, a4, a5, a6, a7, a8, a9, a10⟩ := h
  exact a7
theorem T11.ptrs (h : T11 w r fb mf qb ss k ls ms wr) : PtrsAt wr qb ss.length ms := by
  obtain ⟨a1, a2, a3, a4, a5, a6, a7, a8, a9, a10⟩ := h
  exact a9
theorem T11.len (h : T11 w r fb mf qb ss k ls ms wr) : ls.length = k := by
  obtain ⟨a1, a2, a3, a4, a5, a6, a7, a8, a9, a10⟩ := h
  exact a5
theorem T11.sizes (h : T11 w r fb mf qb ss k ls ms wr) : fb ≠ mf ∧ w.heap.size ≤ fb ∧ w.heap.size ≤ mf ∧ w.heap.size ≤ qb := by
  obtain ⟨a1, a2, a3, a4, a5, a6, a7, a8, a9, a10⟩ := h
  exact ⟨a1, a2, a3, a4⟩

theorem T11.define {s : ByteArray} (h : T11 w r fb mf qb ss k ls ms wr) (hs : ss[k]? = some s) (hsz : s.size ≤ maxLen) (hk : k ≤ 10000000) (hB : w.heap.size ≤ wr.heap.size) :
    Calls Efeg.prog 22 #[.pointer (some ⟨fb, 0, none⟩), .string s] wr fun e w' => ∃ sb, e = .returned (.pointer (some ⟨sb, 0, none⟩)) ∧ T11 w r fb mf qb ss (k + 1) (ls ++ [sb]) ms w' ∧ Kept [fb, mf] wr w' := by
  obtain ⟨h1, h2, h3, h4, rfl, h6, h7, h8, h9, h10⟩ := h
  refine (define_fn h6 h7 hsz (by unfold maxLen; omega) h1 (by omega) (by omega)).mono ?_
  rintro e w' ⟨sb, rfl, hsb, hsy, t', m', k'⟩
  have e1 : max (ls.length : Int) (ls.length + 1) = ((ls.length + 1 : Nat) : Int) := by omega
  rw [e1] at t'
  rw [look_upd hs] at m'
  refine ⟨sb, rfl, ⟨h1, h2, h3, h4, by simp, t', m', ?_, h9.kept k' ?_, ?_⟩, k'⟩
  · refine NSyms.snoc (h8.kept k' fun g name i hg => ?_) hs hsy
    have a1 := hg.ne_tab h6
    have a2 := hg.ne_map h7
    simp; exact ⟨a1, a2⟩
  · have a1 := h9.ne_tab h6
    have a2 := h9.ne_map h7
    simp; exact ⟨a1, a2⟩
  · intro j g hj
    rw [List.getElem?_append] at hj
    split at hj
    · exact h10 j g hj
    · rw [List.getElem?_singleton] at hj
      split at hj
      · cases hj; omega
      · cases hj

theorem T11.put {g : Nat} (h : T11 w r fb mf qb ss (k + 1) ls ms wr) (hms : ms.length = k) (hk : k < ss.length) : T11 w r fb mf qb ss (k + 1) ls (ms ++ [g]) (wr.setCell ⟨qb, k, none⟩ (.pointer (some ⟨g, 0, none⟩))) ∧ Kept [qb] wr (wr.setCell ⟨qb, k, none⟩ (.pointer (some ⟨g, 0, none⟩))) := by
  obtain ⟨h1, h2, h3, h4, h5, h6, h7, h8, h9, h10⟩ := h
  subst hms
  have k' : Kept [qb] wr (wr.setCell ⟨qb, ms.length, none⟩ (.pointer (some ⟨g, 0, none⟩))) := (Kept.refl _ _).setCell (by simp) _
  refine ⟨⟨h1, h2, h3, h4, h5, h6.kept k' ?_, h7.kept k' ?_, h8.kept k' (fun x name i hg => ?_), h9.store hk g, h10⟩, k'⟩
  · simpa using (h9.ne_tab h6).symm
  · simpa using (h9.ne_map h7).symm
  · simpa using hg.ne_ptrs h9

theorem T11.found (h : T11 w r fb mf qb ss ss.length ls ls wr) (x : ByteArray) :
    (lastIdx ss x < 0 ∧ look ss ls ss.length x.data.toList = none) ∨
    (∃ j g : Nat, lastIdx ss x = j ∧ j < ss.length ∧ look ss ls ss.length x.data.toList = some g ∧ SymAt wr g x ⟨#[76, 79, 67, 65, 76]⟩ j false ∧ ls[j]? = some g ∧ w.heap.size ≤ g) := by
  obtain ⟨h1, h2, h3, h4, h5, h6, h7, h8, h9, h10⟩ := h
  rcases look_last ss ls x ss.length (Nat.le_refl _) with hn | ⟨j, hj, hl, hn⟩
  · exact .inl hn
  · have hg : ls[j]? = some ls[j] := by simp
    obtain ⟨s, hs, hsy⟩ := h8 j _ hg
    have hx := last_get ss x ss.length j hl
    rw [hx] at hs
    cases hs
    exact .inr ⟨j, ls[j], hl, hj, hn.trans hg, hsy, hg, h10 _ _ hg⟩
end

theorem S5.map {w wr : World} {r mr pb k : Nat} {ss : List ByteArray} {gs ms : List Nat} (h : S5 w r mr pb ss k gs ms wr) : MapAt wr mr k (look ss gs k) := by
  obtain ⟨_, _, _, _, _, _, m, _⟩ := h
  exact m

theorem S5.found {w wr : World} {r mr pb : Nat} {ss : List ByteArray} {gs : List Nat} (h : S5 w r mr pb ss ss.length gs gs wr) (x : ByteArray) :
    (lastIdx ss x < 0 ∧ look ss gs ss.length x.data.toList = none) ∨
    (∃ (j g : Nat) (nm : ByteArray), lastIdx ss x = j ∧ j < ss.length ∧ look ss gs ss.length x.data.toList = some g ∧ SymAt wr g nm ⟨#[71, 76, 79, 66, 65, 76]⟩ j false ∧ wr.cell? ⟨pb, j, none⟩ = some (.pointer (some ⟨g, 0, none⟩))) := by
  obtain ⟨h1, h2, h3, h4, h5, h6, h7, h8, h9, hb⟩ := h
  rcases look_last ss gs x ss.length (Nat.le_refl _) with hn | ⟨j, hj, hl, hn⟩
  · exact .inl hn
  · have hg : gs[j]? = some gs[j] := by simp
    obtain ⟨nm, hs⟩ := h8 j _ hg
    exact .inr ⟨j, gs[j], nm, hl, hj, hn.trans hg, hs, h9.cell hg⟩
end Go.Proofs.Yoefew
