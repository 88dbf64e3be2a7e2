import Derived.Test.YoefewT9
namespace Go.Proofs.Yoefew
open Go.RowKit Go.Maps

theorem info23 : (Efeg.prog.info? 23).map (fun i => (i.zero, i.size, i.bytes)) = some (some (.pointer none), 1, 8) := by kernel_rfl

/-- A row of n pointers to tables, of which the first ones lead to the blocks on the list. -/
def TPtrsAt (w : World) (b n : Nat) (gs : List Nat) : Prop :=
  ∃ c : Array Value, w.heap[b]? = some (.cells c 23) ∧ c.size = n ∧ ∀ (j g : Nat), gs[j]? = some g → c[j]? = some (.pointer (some ⟨g, 0, none⟩))

theorem TPtrsAt.lt {w : World} {b n : Nat} {gs : List Nat} (h : TPtrsAt w b n gs) : b < w.heap.size := by
  obtain ⟨c, h, _⟩ := h
  exact (Array.getElem?_eq_some_iff.1 h).1
theorem TPtrsAt.kept {S : List Nat} {w w' : World} {b n : Nat} {gs : List Nat} (h : TPtrsAt w b n gs) (k : Kept S w w') (hb : b ∉ S) : TPtrsAt w' b n gs := by
  have hlt := h.lt
  obtain ⟨c, h1, h2⟩ := h
  exact ⟨c, (k.block b hlt hb).trans h1, h2⟩
theorem TPtrsAt.made (w : World) (n : Nat) : TPtrsAt (w.alloc (.cells (madeCells #[.pointer none] n) 23)) w.heap.size n [] :=
  ⟨_, (MapKept.heap_alloc w _).1, size_madeCells _ _, by simp⟩
theorem TPtrsAt.frozen {w : World} {b n : Nat} {gs : List Nat} (h : TPtrsAt w b n gs) (i : Nat) : w.frozen? ⟨b, i, none⟩ = false := by
  obtain ⟨c, h, _⟩ := h
  simp [World.frozen?, h]
theorem TPtrsAt.old {w : World} {b n : Nat} {gs : List Nat} (h : TPtrsAt w b n gs) {i : Nat} (hi : i < n) : ∃ v, w.cell? ⟨b, i, none⟩ = some v := by
  obtain ⟨c, h, hs, _⟩ := h
  exact ⟨c[i], by simp [World.cell?, h, hs, hi]⟩
theorem TPtrsAt.cell {w : World} {b n : Nat} {gs : List Nat} (h : TPtrsAt w b n gs) {i g : Nat} (hi : gs[i]? = some g) : w.cell? ⟨b, i, none⟩ = some (.pointer (some ⟨g, 0, none⟩)) := by
  obtain ⟨c, h, _, hc⟩ := h
  simp [World.cell?, h, hc i g hi]
theorem TPtrsAt.store {w : World} {b n : Nat} {gs : List Nat} (h : TPtrsAt w b n gs) (hi : gs.length < n) (g : Nat) : TPtrsAt (w.setCell ⟨b, gs.length, none⟩ (.pointer (some ⟨g, 0, none⟩))) b n (gs ++ [g]) := by
  obtain ⟨c, h, hs, hc⟩ := h
  refine ⟨_, heap_setCell_same h _ _, by simpa using hs, fun j x hj => ?_⟩
  by_cases e : j = gs.length
  · subst e
    simp at hj
    subst hj
    simp [hs, hi]
  · have hj' : gs[j]? = some x := by
      rw [List.getElem?_append] at hj
      split at hj
      · exact hj
      · rw [List.getElem?_singleton] at hj
        split at hj
        · omega
        · cases hj
    rw [Array.getElem?_setIfInBounds_ne (by omega)]
    exact hc j x hj'

/-- A chain of tables: each but the first lies over the one before it, is empty, and is younger than B. -/
def Tabs (w : World) (B : Nat) (ts : List Nat) : Prop :=
  ∀ (i b p : Nat), ts[i + 1]? = some b → ts[i]? = some p → ∃ mb blk, TabAt w b (some ⟨p, 0, none⟩) blk mb 0 0 (.slice none 0 0) (.slice none 0 0) ∧ MapAt w mb 0 (fun _ => none) ∧ B ≤ b ∧ B ≤ mb

theorem Tabs.one (w : World) (B r : Nat) : Tabs w B [r] := by intro i b p h; simp at h
theorem Tabs.kept {S : List Nat} {w w' : World} {B : Nat} {ts : List Nat} (h : Tabs w B ts) (k : Kept S w w') (hS : ∀ x ∈ S, x < B ∨ ∃ c, w.heap[x]? = some (.cells c 29) ) : Tabs w' B ts := by
  intro i b p hb hp
  obtain ⟨mb, blk, t, m, h1, h2⟩ := h i b p hb hp
  refine ⟨mb, blk, t.kept k ?_, m.kept k ?_, h1, h2⟩
  · intro hm
    rcases hS b hm with h' | ⟨c, hc⟩
    · omega
    · unfold TabAt at t; rw [t] at hc; simp at hc
  · intro hm
    rcases hS mb hm with h' | ⟨c, hc⟩
    · omega
    · obtain ⟨D, ⟨es, cl, hh, _⟩, _⟩ := m; rw [hh] at hc; cases hc
theorem Tabs.snoc {w : World} {B : Nat} {ts : List Nat} {p g mg : Nat} {blk : Bool} (h : Tabs w B ts) (hp : ts[ts.length - 1]? = some p) (t : TabAt w g (some ⟨p, 0, none⟩) blk mg 0 0 (.slice none 0 0) (.slice none 0 0)) (m : MapAt w mg 0 (fun _ => none)) (h1 : B ≤ g) (h2 : B ≤ mg) : Tabs w B (ts ++ [g]) := by
  have hlen : 0 < ts.length := by
    rcases Nat.eq_zero_or_pos ts.length with h0 | h0
    · have := (List.getElem?_eq_some_iff.1 hp).1; omega
    · exact h0
  intro i b q hb hq
  rw [List.getElem?_append] at hb
  split at hb
  · rename_i hlt
    rw [List.getElem?_append_left (by omega)] at hq
    exact h i b q hb hq
  · rename_i hge
    rw [List.getElem?_singleton] at hb
    split at hb
    · cases hb
      have ei : i = ts.length - 1 := by omega
      subst ei
      rw [List.getElem?_append_left (by omega), hp] at hq
      cases hq
      exact ⟨mg, blk, t, m, h1, h2⟩
    · cases hb

/-- From any table of the chain what the root does comes through. -/
theorem db_chain {w : World} {B r : Nat} {ts : List Nat} {idx : Int} {s : ByteArray} {R : Value → World → Prop} (h : Tabs w B ts) (h0 : ts[0]? = some r)
    (hr : Calls Efeg.prog 30 #[.pointer (some ⟨r, 0, none⟩), .int .i64 idx, .string s] w fun e w' => ∃ v, e = .returned v ∧ R v w') :
    ∀ (i b : Nat), ts[i]? = some b → Calls Efeg.prog 30 #[.pointer (some ⟨b, 0, none⟩), .int .i64 idx, .string s] w fun e w' => ∃ v, e = .returned v ∧ R v w'
  | 0, b, hb => by rw [h0] at hb; cases hb; exact hr
  | i + 1, b, hb => by
    have hlt := (List.getElem?_eq_some_iff.1 hb).1
    obtain ⟨p, hp⟩ : ∃ p, ts[i]? = some p := ⟨ts[i], by simp⟩
    obtain ⟨mb, blk, t, m, _⟩ := h i b p hb hp
    exact db_up t (db_chain h h0 hr i p hp)

theorem builtin_chain {w : World} {B r : Nat} {ts : List Nat} {v : Value} (h : Tabs w B ts) (h0 : ts[0]? = some r)
    (hr : Calls Efeg.prog 17 #[.pointer (some ⟨r, 0, none⟩)] w fun e w' => e = .returned v ∧ w = w') :
    ∀ (i b : Nat), ts[i]? = some b → Calls Efeg.prog 17 #[.pointer (some ⟨b, 0, none⟩)] w fun e w' => e = .returned v ∧ w = w'
  | 0, b, hb => by rw [h0] at hb; cases hb; exact hr
  | i + 1, b, hb => by
    have hlt := (List.getElem?_eq_some_iff.1 hb).1
    obtain ⟨p, hp⟩ : ∃ p, ts[i]? = some p := ⟨ts[i], by simp⟩
    obtain ⟨mb, blk, t, m, _⟩ := h i b p hb hp
    exact builtin_up t (builtin_chain h h0 hr i p hp)

theorem resolve_chain {w : World} {B r sb : Nat} {ts : List Nat} {s name sc : ByteArray} {idx : Int} {la : Bool} (h : Tabs w B ts) (h0 : ts[0]? = some r) (hs : s.size ≤ maxLen) (hsy : SymAt w sb name sc idx la)
    (hu : (sc.toList == [71, 76, 79, 66, 65, 76]) = true ∨ (sc.toList == [66, 85, 73, 76, 84, 73, 78]) = true) (hl : ts.length ≤ 10000000)
    (hr : ∀ rc, Calls Efeg.prog 18 #[.pointer (some ⟨r, 0, none⟩), .string s, .bool rc] w fun e w' => e = .returned (.tuple #[.pointer (some ⟨sb, 0, none⟩), .int .i64 0, .bool true]) ∧ w = w') :
    ∀ (i b : Nat) (rc : Bool), ts[i]? = some b → Calls Efeg.prog 18 #[.pointer (some ⟨b, 0, none⟩), .string s, .bool rc] w fun e w' => e = .returned (.tuple #[.pointer (some ⟨sb, 0, none⟩), .int .i64 (i : Nat), .bool true]) ∧ w = w'
  | 0, b, rc, hb => by rw [h0] at hb; cases hb; exact hr rc
  | i + 1, b, rc, hb => by
    have hlt := (List.getElem?_eq_some_iff.1 hb).1
    obtain ⟨p, hp⟩ : ∃ p, ts[i]? = some p := ⟨ts[i], by simp⟩
    obtain ⟨mb, blk, t, m, _⟩ := h i b p hb hp
    have := resolve_up_pass (recur := rc) (d := (i : Nat)) t m hs (.inl rfl) (by omega) (by omega) hsy (.inr hu) (resolve_chain h h0 hs hsy hu hl hr i p true hp)
    exact this

/-- A slice of bools: its elements are 'qs'. -/
def BoolsAt (w : World) (a : Option Addr) (qs : List Bool) : Prop :=
  qs = [] ∨ ∃ b off, a = some ⟨b, off, none⟩ ∧ b < w.heap.size ∧ ∀ (k : Nat) (q : Bool), qs[k]? = some q → w.cell? ⟨b, off + k, none⟩ = some (.bool q)

theorem BoolsAt.row {w : World} {a : Option Addr} {qs : List Bool} (h : BoolsAt w a qs) {k : Nat} (hk : k < qs.length) :
    ∃ b off q, a = some ⟨b, off, none⟩ ∧ qs[k]? = some q ∧ ∀ wx, Below w.heap.size w wx → wx.cell? ⟨b, off + k, none⟩ = some (.bool q) := by
  have e : qs[k]? = some qs[k] := by simp [hk]
  rcases h with h2 | ⟨b, off, ea, hlt, h2⟩
  · subst h2; simp at hk
  · exact ⟨b, off, _, ea, e, fun wx hb => by rw [hb.cell (by exact hlt)]; exact h2 _ _ e⟩
end Go.Proofs.Yoefew
