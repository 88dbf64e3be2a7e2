import Derived.Test.YoefewT4
namespace Go.Proofs.Yoefew
open Go.RowKit Go.Maps

/-- The root table, empty, and a function's table over it: N slots in use, at most M. -/
def F6 (w : World) (r mr fb mf N M : Nat) (wr : World) : Prop :=
  fb ≠ mf ∧ fb ≠ r ∧ mf ≠ r ∧ w.heap.size ≤ fb ∧ w.heap.size ≤ mf ∧ TabAt wr r none false mr 0 0 (.slice none 0 0) (.slice none 0 0) ∧
    (∃ f, TabAt wr fb (some ⟨r, 0, none⟩) false mf N M (.slice none 0 0) (.slice none 0 0) ∧ MapAt wr mf N f) ∧ Below w.heap.size w wr

/-- A block's table over the function's. -/
def K6 (w : World) (g mg fb n m : Nat) (wr : World) : Prop :=
  g ≠ mg ∧ w.heap.size ≤ g ∧ w.heap.size ≤ mg ∧ ∃ f, TabAt wr g (some ⟨fb, 0, none⟩) true mg n m (.slice none 0 0) (.slice none 0 0) ∧ MapAt wr mg n f

theorem F6.lt {w wr : World} {r mr fb mf N M : Nat} (h : F6 w r mr fb mf N M wr) : r < wr.heap.size ∧ fb < wr.heap.size ∧ mf < wr.heap.size := by
  obtain ⟨_, _, _, _, _, tr, ⟨f, t, m⟩, _⟩ := h
  exact ⟨tr.lt, t.lt, m.lt⟩
theorem F6.below {w wr : World} {r mr fb mf N M : Nat} (h : F6 w r mr fb mf N M wr) : Below w.heap.size w wr := h.2.2.2.2.2.2.2
theorem below_drewN {B : Nat} {w wr : World} (h : Below B w wr) (n : Nat) : Below B w (wr.drewN n) := h.trans ⟨rfl, rfl, rfl, Nat.le_refl _, fun _ _ => rfl⟩
theorem F6.drewN {w wr : World} {r mr fb mf N M : Nat} (h : F6 w r mr fb mf N M wr) (n : Nat) : F6 w r mr fb mf N M (wr.drewN n) := by
  obtain ⟨h1, h2, h3, h4, h5, h6, h7, h8⟩ := h
  exact ⟨h1, h2, h3, h4, h5, h6, h7, below_drewN h8 n⟩
theorem K6.drewN {w wr : World} {g mg fb n m : Nat} (h : K6 w g mg fb n m wr) (k : Nat) : K6 w g mg fb n m (wr.drewN k) := h

theorem F6.def_fn {w wr : World} {r mr fb mf N M : Nat} {s : ByteArray} (h : F6 w r mr fb mf N M wr) (hs : s.size ≤ maxLen) (hN : N ≤ 10000000) :
    Calls Efeg.prog 22 #[.pointer (some ⟨fb, 0, none⟩), .string s] wr fun e w' => ∃ sb, e = .returned (.pointer (some ⟨sb, 0, none⟩)) ∧ SymAt w' sb s ⟨#[76, 79, 67, 65, 76]⟩ N false ∧ F6 w r mr fb mf (N + 1) (max M (N + 1)) w' := by
  obtain ⟨h1, h2, h3, h4, h5, tr, ⟨f, t, m⟩, hb⟩ := h
  refine (define_fn t m hs (by unfold maxLen; omega) h1 (by omega) (by omega)).mono ?_
  rintro e w' ⟨sb, rfl, hsb, hsy, t', m', k'⟩
  refine ⟨sb, rfl, hsy, h1, h2, h3, h4, h5, tr.kept k' (by simp; omega), ⟨_, ?_, m'⟩, hb.trans (k'.below hb.size (by simp; omega))⟩
  have e1 : max (M : Int) (N + 1) = ((max M (N + 1) : Nat) : Int) := by omega
  rw [e1] at t'
  exact t'

theorem F6.fork {w wr : World} {r mr fb mf N M : Nat} (h : F6 w r mr fb mf N M wr) :
    Calls Efeg.prog 26 #[.pointer (some ⟨fb, 0, none⟩), .bool true] wr fun e w' => ∃ g mg, e = .returned (.pointer (some ⟨g, 0, none⟩)) ∧ F6 w r mr fb mf N M w' ∧ K6 w g mg fb 0 0 w' ∧ wr.heap.size ≤ g ∧ wr.heap.size ≤ mg := by
  obtain ⟨h1, h2, h3, h4, h5, tr, ⟨f, t, m⟩, hb⟩ := h
  refine (fork_calls (some ⟨fb, 0, none⟩) true wr).mono ?_
  rintro e w' ⟨g, mg, rfl, hg, hmg, hne', t', m', k'⟩
  have hz := hb.size
  exact ⟨g, mg, rfl, ⟨h1, h2, h3, h4, h5, tr.kept k' (by simp), ⟨f, t.kept k' (by simp), m.kept k' (by simp)⟩, hb.trans (k'.below hz (by simp))⟩, ⟨hne', by omega, by omega, _, t', m'⟩, hg, hmg⟩

theorem F6.def_blk {w wr : World} {r mr fb mf N M g mg n m : Nat} {s : ByteArray} (h : F6 w r mr fb mf N M wr) (hg : K6 w g mg fb n m wr) (hs : s.size ≤ maxLen) (hN : N + n ≤ 10000000)
    (d1 : g ≠ r) (d2 : mg ≠ r) (d3 : g ≠ fb) (d4 : mg ≠ fb) (d5 : g ≠ mf) (d6 : mg ≠ mf) :
    Calls Efeg.prog 22 #[.pointer (some ⟨g, 0, none⟩), .string s] wr fun e w' => ∃ sb, e = .returned (.pointer (some ⟨sb, 0, none⟩)) ∧ SymAt w' sb s ⟨#[76, 79, 67, 65, 76]⟩ ((N + n : Nat) : Int) false ∧
      F6 w r mr fb mf N (max M (N + n + 1)) w' ∧ K6 w g mg fb (n + 1) (max m (N + n + 1)) w' := by
  obtain ⟨h1, h2, h3, h4, h5, tr, ⟨f, t, mm⟩, hb⟩ := h
  obtain ⟨hne', h1', h2', f', t', m'⟩ := hg
  refine (define_blk t' t m' hs (by unfold maxLen; omega) hne' d3 d4 (by omega) (by omega) (by omega)).mono ?_
  rintro e w' ⟨sb, rfl, hsb, hsy, tg, tf, mg', k'⟩
  refine ⟨sb, rfl, by simpa using hsy, ⟨h1, h2, h3, h4, h5, tr.kept k' (by simp; omega), ⟨f, ?_, mm.kept k' (by simp; omega)⟩, hb.trans (k'.below hb.size (by simp; omega))⟩, ⟨hne', h1', h2', _, ?_, mg'⟩⟩
  · have e1 : max (M : Int) (N + n + 1) = ((max M (N + n + 1) : Nat) : Int) := by omega
    rw [e1] at tf
    exact tf
  · have e1 : max (m : Int) (N + n + 1) = ((max m (N + n + 1) : Nat) : Int) := by omega
    rw [e1] at tg
    exact tg

/-- A block's greatest slot after k definitions over na. -/
def topOf (na k : Nat) : Nat := if k = 0 then 0 else na + k
theorem topOf_zero (na : Nat) : topOf na 0 = 0 := rfl
theorem topOf_pos {na k : Nat} (h : 0 < k) : topOf na k = na + k := by unfold topOf; rw [if_neg (by omega)]
theorem topOf_succ (na k : Nat) : max (topOf na k) (na + k + 1) = topOf na (k + 1) := by
  unfold topOf; split <;> split <;> omega

theorem maxInt_calls (x y : Nat) (w : World) : Calls Efeg.prog 27 #[.int .i64 x, .int .i64 y] w fun e w' => e = .returned (.int .i64 ((max x y : Nat) : Int)) ∧ w = w' := by
  by_cases h : (y : Int) < x
  · go_enter Efeg.func27, Efeg.ntmps27
    go_wp2
    go_ret
    exact ⟨by rw [show max x y = x by omega]; rfl, rfl⟩
  · go_enter Efeg.func27, Efeg.ntmps27
    go_wp2
    go_ret
    exact ⟨by rw [show max x y = y by omega]; rfl, rfl⟩
end Go.Proofs.Yoefew
