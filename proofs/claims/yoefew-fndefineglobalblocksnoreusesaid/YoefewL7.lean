import Derived.Test.YoefewT5
namespace Go.Proofs.Yoefew
open Go.RowKit Go.Maps

/-- The root table in which N slots are given; nothing below the first block of the call has turned. -/
def R7 (w : World) (r mr N : Nat) (wr : World) : Prop :=
  r ≠ mr ∧ w.heap.size ≤ r ∧ w.heap.size ≤ mr ∧ (∃ f, TabAt wr r none false mr N N (.slice none 0 0) (.slice none 0 0) ∧ MapAt wr mr N f) ∧ Below w.heap.size w wr

/-- A block's table over p. -/
def B7 (w : World) (g mg p N : Nat) (wr : World) : Prop :=
  g ≠ mg ∧ w.heap.size ≤ g ∧ w.heap.size ≤ mg ∧ ∃ f md, TabAt wr g (some ⟨p, 0, none⟩) true mg 0 md (.slice none 0 0) (.slice none 0 0) ∧ MapAt wr mg N f

theorem R7.lt {w wr : World} {r mr N : Nat} (h : R7 w r mr N wr) : r < wr.heap.size ∧ mr < wr.heap.size := by
  obtain ⟨_, _, _, ⟨f, t, m⟩, _⟩ := h
  exact ⟨t.lt, m.lt⟩
theorem B7.lt {w wr : World} {g mg p N : Nat} (h : B7 w g mg p N wr) : g < wr.heap.size ∧ mg < wr.heap.size := by
  obtain ⟨_, _, _, f, md, t, m⟩ := h
  exact ⟨t.lt, m.lt⟩

theorem R7.below {w wr : World} {r mr N : Nat} (h : R7 w r mr N wr) : Below w.heap.size w wr := h.2.2.2.2

theorem B7.mono {w wr : World} {g mg p N N' : Nat} (h : B7 w g mg p N wr) (hN : N ≤ N') : B7 w g mg p N' wr := by
  obtain ⟨h1, h2, h3, f, md, t, m⟩ := h
  exact ⟨h1, h2, h3, f, md, t, m.mono hN⟩

theorem R7.def_root {w wr : World} {r mr N : Nat} {s : ByteArray} (h : R7 w r mr N wr) (hs : s.size ≤ maxLen) (hN : N ≤ 10000000) :
    Calls Efeg.prog 22 #[.pointer (some ⟨r, 0, none⟩), .string s] wr fun e w' => ∃ sb, e = .returned (.pointer (some ⟨sb, 0, none⟩)) ∧ SymAt w' sb s ⟨#[71, 76, 79, 66, 65, 76]⟩ N false ∧ R7 w r mr (N + 1) w' := by
  obtain ⟨hne, h1, h2, ⟨f, t, m⟩, hb⟩ := h
  refine (define_root t m hs (by unfold maxLen; omega) hne (by omega) (by omega)).mono ?_
  rintro e w' ⟨sb, rfl, hsb, hsy, t', m', k'⟩
  refine ⟨sb, rfl, hsy, hne, h1, h2, ⟨_, ?_, m'⟩, hb.trans (k'.below hb.size (by simp; omega))⟩
  have e1 : max (N : Int) (N + 1) = ((N + 1 : Nat) : Int) := by omega
  rw [e1] at t'
  exact t'

theorem R7.fork {w wr : World} {r mr N : Nat} (h : R7 w r mr N wr) (p : Nat) :
    Calls Efeg.prog 26 #[.pointer (some ⟨p, 0, none⟩), .bool true] wr fun e w' => ∃ g mg, e = .returned (.pointer (some ⟨g, 0, none⟩)) ∧ R7 w r mr N w' ∧ B7 w g mg p 0 w' ∧ wr.heap.size ≤ g ∧ wr.heap.size ≤ mg ∧ Kept [] wr w' := by
  obtain ⟨hne, h1, h2, ⟨f, t, m⟩, hb⟩ := h
  refine (fork_calls (some ⟨p, 0, none⟩) true wr).mono ?_
  rintro e w' ⟨g, mg, rfl, hg, hmg, hne', t', m', k'⟩
  have hz := hb.size
  exact ⟨g, mg, rfl, ⟨hne, h1, h2, ⟨f, t.kept k' (by simp), m.kept k' (by simp)⟩, hb.trans (k'.below hz (by simp))⟩, ⟨hne', by omega, by omega, _, _, t', m'⟩, hg, hmg, k'⟩

theorem R7.def_g1 {w wr : World} {r mr N g mg : Nat} {s : ByteArray} (h : R7 w r mr N wr) (hg : B7 w g mg r N wr) (hs : s.size ≤ maxLen) (hN : N ≤ 10000000) (d1 : g ≠ r) (d2 : mg ≠ r) (d3 : g ≠ mr) (d4 : mg ≠ mr) :
    Calls Efeg.prog 22 #[.pointer (some ⟨g, 0, none⟩), .string s] wr fun e w' => ∃ sb, e = .returned (.pointer (some ⟨sb, 0, none⟩)) ∧ SymAt w' sb s ⟨#[71, 76, 79, 66, 65, 76]⟩ N false ∧ R7 w r mr (N + 1) w' ∧ B7 w g mg r (N + 1) w' := by
  obtain ⟨hne, h1, h2, ⟨f, t, m⟩, hb⟩ := h
  obtain ⟨hne', h1', h2', f', md', t', m'⟩ := hg
  refine (define_gb1 t' t m' hs (by unfold maxLen; omega) hne' d1 d2 (by omega) (by omega) (by omega)).mono ?_
  rintro e w' ⟨sb, rfl, hsb, hsy, tg, tr, mm, k'⟩
  refine ⟨sb, rfl, by simpa using hsy, ⟨hne, h1, h2, ⟨f, ?_, (m.kept k' (by simp; omega)).mono (by omega)⟩, hb.trans (k'.below hb.size (by simp; omega))⟩, ⟨hne', h1', h2', _, _, tg, mm⟩⟩
  have e1 : max (N : Int) (N + 0 + 1) = ((N + 1 : Nat) : Int) := by omega
  rw [e1] at tr
  exact tr

theorem R7.def_g2 {w wr : World} {r mr N p mp g mg : Nat} {s : ByteArray} (h : R7 w r mr N wr) (hp : B7 w p mp r N wr) (hg : B7 w g mg p N wr) (hs : s.size ≤ maxLen) (hN : N ≤ 10000000) (d1 : g ≠ r) (d2 : mg ≠ r) (d3 : g ≠ mr) (d4 : mg ≠ mr)
    (d5 : g ≠ p) (d6 : mg ≠ p) (d7 : g ≠ mp) (d8 : mg ≠ mp) (d9 : p ≠ r) (d10 : p ≠ mr) (d11 : mp ≠ r) :
    Calls Efeg.prog 22 #[.pointer (some ⟨g, 0, none⟩), .string s] wr fun e w' => ∃ sb, e = .returned (.pointer (some ⟨sb, 0, none⟩)) ∧ SymAt w' sb s ⟨#[71, 76, 79, 66, 65, 76]⟩ N false ∧ R7 w r mr (N + 1) w' ∧ B7 w p mp r (N + 1) w' ∧ B7 w g mg p (N + 1) w' := by
  obtain ⟨hne, h1, h2, ⟨f, t, m⟩, hb⟩ := h
  obtain ⟨hne', h1', h2', f', md', t', m'⟩ := hg
  obtain ⟨hneq, h1q, h2q, fq, mdq, tq, mq⟩ := hp
  refine (define_gb2 t' tq t m' hs (by unfold maxLen; omega) hne' d1 d2 d5 d6 d9 (by omega) (by omega) (by omega) (by omega)).mono ?_
  rintro e w' ⟨sb, rfl, hsb, hsy, tg, tp, tr, mm, k'⟩
  refine ⟨sb, rfl, by simpa using hsy, ⟨hne, h1, h2, ⟨f, ?_, (m.kept k' (by simp; omega)).mono (by omega)⟩, hb.trans (k'.below hb.size (by simp; omega))⟩, ⟨hneq, h1q, h2q, _, _, tp, (mq.kept k' (by simp; omega)).mono (by omega)⟩, ⟨hne', h1', h2', _, _, tg, mm⟩⟩
  have e1 : max (N : Int) (N + 0 + 0 + 1) = ((N + 1 : Nat) : Int) := by omega
  rw [e1] at tr
  exact tr
end Go.Proofs.Yoefew
