import Derived.Test.YoefewL9
namespace Go.Proofs.Yoefew
open Go.RowKit Go.Maps

/-- A slice of definitions (index, name, where). -/
def DefsAt (w : World) (a : Option Addr) (ds : List (Int × ByteArray × Int)) : Prop :=
  (∀ (k : Nat) (d : Int × ByteArray × Int), ds[k]? = some d → d.2.1.size ≤ maxLen ∧ 0 ≤ d.2.2 ∧ d.2.2 ≤ 255) ∧
  (ds = [] ∨ ∃ b off, a = some ⟨b, off, none⟩ ∧ b < w.heap.size ∧ ∀ (k : Nat) (d : Int × ByteArray × Int), ds[k]? = some d →
    w.cell? ⟨b, off + k * 3, none⟩ = some (.int .i64 d.1) ∧ w.cell? ⟨b, off + k * 3 + 1, none⟩ = some (.string d.2.1) ∧ w.cell? ⟨b, off + k * 3 + 2, none⟩ = some (.int .u8 d.2.2))

theorem DefsAt.row {w : World} {a : Option Addr} {ds : List (Int × ByteArray × Int)} (h : DefsAt w a ds) {k : Nat} (hk : k < ds.length) :
    ∃ b off i s wh, a = some ⟨b, off, none⟩ ∧ ds[k]? = some (i, s, wh) ∧ s.size ≤ maxLen ∧ 0 ≤ wh ∧ wh ≤ 255 ∧ ∀ wx, Below w.heap.size w wx →
      wx.cell? ⟨b, off + k * 3, none⟩ = some (.int .i64 i) ∧ wx.cell? ⟨b, off + k * 3 + 1, none⟩ = some (.string s) ∧ wx.cell? ⟨b, off + k * 3 + 2, none⟩ = some (.int .u8 wh) := by
  obtain ⟨h1, h2⟩ := h
  obtain ⟨d, e⟩ : ∃ d, ds[k]? = some d := ⟨ds[k], by simp⟩
  rcases h2 with h2 | ⟨b, off, ea, hlt, h2⟩
  · subst h2; simp at hk
  · obtain ⟨i, s, wh⟩ := d
    obtain ⟨g1, g2, g3⟩ := h1 _ _ e
    obtain ⟨c1, c2, c3⟩ := h2 _ _ e
    exact ⟨b, off, i, s, wh, ea, e, g1, g2, g3, fun wx hb => ⟨by rw [hb.cell (by exact hlt)]; exact c1, by rw [hb.cell (by exact hlt)]; exact c2, by rw [hb.cell (by exact hlt)]; exact c3⟩⟩

/-- The bytes of all names together. -/
def totD (ds : List (Int × ByteArray × Int)) : Nat := (ds.map fun d => d.2.1.size).sum
theorem totD_nil : totD [] = 0 := rfl
theorem totD_take {ds : List (Int × ByteArray × Int)} {k : Nat} {i wh : Int} {s : ByteArray} (h : ds[k]? = some (i, s, wh)) : totD (ds.take (k + 1)) = totD (ds.take k) + s.size := by
  unfold totD
  have hk : k < ds.length := (List.getElem?_eq_some_iff.1 h).1
  have hs : ds[k] = (i, s, wh) := (List.getElem?_eq_some_iff.1 h).2
  rw [List.take_succ_eq_append_getElem hk, hs]
  simp
theorem totD_take_le (ds : List (Int × ByteArray × Int)) (k : Nat) : totD (ds.take k) ≤ totD ds := by
  have : totD ds = totD (ds.take k) + totD (ds.drop k) := by
    unfold totD
    rw [← List.sum_append, ← List.map_append, List.take_append_drop]
  omega

/-- The array of the four tables. -/
def ArrAt (w : World) (b t0 t1 t2 t3 : Nat) : Prop := w.heap[b]? = some (.cells #[sptr t0, sptr t1, sptr t2, sptr t3] 47)
theorem ArrAt.lt {w : World} {b t0 t1 t2 t3 : Nat} (h : ArrAt w b t0 t1 t2 t3) : b < w.heap.size := (Array.getElem?_eq_some_iff.1 h).1
theorem ArrAt.kept {S : List Nat} {w w' : World} {b t0 t1 t2 t3 : Nat} (h : ArrAt w b t0 t1 t2 t3) (k : Kept S w w') (hb : b ∉ S) : ArrAt w' b t0 t1 t2 t3 := (k.block b h.lt hb).trans h
theorem ArrAt.cell {w : World} {b t0 t1 t2 t3 : Nat} (h : ArrAt w b t0 t1 t2 t3) {j t : Nat} (hj : [t0, t1, t2, t3][j]? = some t) : w.cell? ⟨b, j, none⟩ = some (sptr t) := by
  unfold ArrAt at h
  have e : w.cell? ⟨b, j, none⟩ = #[sptr t0, sptr t1, sptr t2, sptr t3][j]? := by simp [World.cell?, h]
  rw [e]
  match j, hj with
  | 0, hj => simp at hj; simp [hj]
  | 1, hj => simp at hj; simp [hj]
  | 2, hj => simp at hj; simp [hj]
  | 3, hj => simp at hj; simp [hj]
  | j + 4, hj => simp at hj

/-- The state in the loop over the definitions: 'gs' the builtins so far, 'ms' those kept in the row. -/
def D8 (w : World) (r mr f g2 g3 ab pb B Bo n k : Nat) (gs ms : List Nat) (wr : World) : Prop :=
  (∃ bu F, TabAt wr r none false mr 0 0 (.slice none 0 0) bu ∧ MapAt wr mr k F ∧ OwnsPtrs wr Bo bu gs) ∧ Tabs wr B [r, f, g2, g3] ∧ PtrsAt wr pb n ms ∧ ArrAt wr ab r f g2 g3 ∧ gs.length = k ∧
    Below w.heap.size w wr ∧ Bo ≤ wr.heap.size ∧
    r ≠ mr ∧ w.heap.size ≤ r ∧ w.heap.size ≤ mr ∧ w.heap.size ≤ pb ∧ r < B ∧ mr < B ∧ pb < Bo ∧ pb ≠ r ∧ pb ≠ mr ∧ w.heap.size ≤ Bo

section
variable {w wr : World} {r mr f g2 g3 ab pb B Bo n k : Nat} {gs ms : List Nat}
theorem D8.below (h : D8 w r mr f g2 g3 ab pb B Bo n k gs ms wr) : Below w.heap.size w wr := by
  obtain ⟨_, _, _, _, _, h, _⟩ := h
  exact h
theorem D8.arr (h : D8 w r mr f g2 g3 ab pb B Bo n k gs ms wr) : ArrAt wr ab r f g2 g3 := by
  obtain ⟨_, _, _, h, _⟩ := h
  exact h
theorem D8.ptrs (h : D8 w r mr f g2 g3 ab pb B Bo n k gs ms wr) : PtrsAt wr pb n ms := by
  obtain ⟨_, _, h, _⟩ := h
  exact h
theorem D8.same {w' : World} (h : D8 w r mr f g2 g3 ab pb B Bo n k gs ms wr) (hs : Same wr w') : D8 w r mr f g2 g3 ab pb B Bo n k gs ms w' := by
  obtain ⟨⟨bu, F, h1, h2, h3⟩, h4, h5, h6, h7, h8, h9, h10⟩ := h
  have kk : Kept [] wr w' := hs.kept
  exact ⟨⟨bu, F, h1.kept kk (by simp), h2.kept kk (by simp), h3.kept kk (by simp)⟩, h4.kept kk (by simp), h5.kept kk (by simp), h6.kept kk (by simp), h7, h8.trans (kk.below h8.size (by simp)), Nat.le_trans h9 kk.size, h10⟩

theorem D8.define {s : ByteArray} {idx : Int} {j t : Nat} (h : D8 w r mr f g2 g3 ab pb B Bo n k gs ms wr) (hj : [r, f, g2, g3][j]? = some t) (hs : s.size ≤ maxLen) (hk : k ≤ 10000000) :
    Calls Efeg.prog 30 #[.pointer (some ⟨t, 0, none⟩), .int .i64 idx, .string s] wr fun e w' => ∃ v, e = .returned v ∧ ∃ sb, v = .pointer (some ⟨sb, 0, none⟩) ∧ SymAt w' sb s ⟨#[66, 85, 73, 76, 84, 73, 78]⟩ idx false ∧ D8 w r mr f g2 g3 ab pb B Bo n (k + 1) (gs ++ [sb]) ms w' := by
  obtain ⟨⟨bu, F, t1, m1, o1⟩, tb, p1, a1, rfl, hb, hBo, n1, n2, n3, n4, n5, n6, n7, n8, n9, n10⟩ := h
  refine db_chain (R := fun v w' => ∃ sb, v = .pointer (some ⟨sb, 0, none⟩) ∧ SymAt w' sb s ⟨#[66, 85, 73, 76, 84, 73, 78]⟩ idx false ∧ D8 w r mr f g2 g3 ab pb B Bo n (gs.length + 1) (gs ++ [sb]) ms w') tb rfl ?_ j t hj
  refine (db_root (idx := idx) t1 m1 o1 hs (by unfold maxLen; omega) hk hBo n1).mono ?_
  rintro e w' ⟨sb, bu', rfl, hge, q1, q2, q3, q4, q5⟩
  have own : ∀ b, bu.ownBlock = some b → Bo ≤ b ∧ ∃ c, wr.heap[b]? = some (.cells c 29) := fun b hb' => o1.block hb'
  refine ⟨_, rfl, sb, rfl, q1, ⟨bu', _, q2, q3, q4⟩, tb.kept q5 ?_, p1.kept q5 ?_, a1.kept q5 ?_, by simp, hb.trans (q5.below hb.size ?_), Nat.le_trans hBo q5.size, n1, n2, n3, n4, n5, n6, n7, n8, n9, n10⟩
  · intro x hx
    simp at hx
    rcases hx with rfl | rfl | hx
    · exact .inl n5
    · exact .inl n6
    · exact .inr (own x hx).2
  · intro hx
    simp at hx
    rcases hx with hx | hx | hx
    · exact n8 hx
    · exact n9 hx
    · have := (own pb hx).1; omega
  · intro hx
    simp at hx
    unfold ArrAt at a1
    rcases hx with rfl | rfl | hx
    · unfold TabAt at t1; rw [a1] at t1; simp at t1
    · obtain ⟨D, ⟨es, cl, hh, _⟩, _⟩ := m1; rw [a1] at hh; cases hh
    · obtain ⟨_, c, hc⟩ := own ab hx
      rw [a1] at hc
      simp at hc
  · intro x hx
    simp at hx
    rcases hx with rfl | rfl | hx
    · exact n2
    · exact n3
    · have := (own x hx).1; omega

theorem D8.put {g : Nat} (h : D8 w r mr f g2 g3 ab pb B Bo n (k + 1) gs ms wr) (hms : ms.length = k) (hk : k < n) : D8 w r mr f g2 g3 ab pb B Bo n (k + 1) gs (ms ++ [g]) (wr.setCell ⟨pb, k, none⟩ (.pointer (some ⟨g, 0, none⟩))) := by
  obtain ⟨⟨bu, F, t1, m1, o1⟩, tb, p1, a1, hl, hb, hBo, n1, n2, n3, n4, n5, n6, n7, n8, n9, n10⟩ := h
  subst hms
  have k' : Kept [pb] wr (wr.setCell ⟨pb, ms.length, none⟩ (.pointer (some ⟨g, 0, none⟩))) := (Kept.refl _ _).setCell (by simp) _
  refine ⟨⟨bu, F, t1.kept k' (by simpa using n8.symm), m1.kept k' (by simpa using n9.symm), o1.kept k' (fun x hx => by have := (o1.block hx).1; simp; omega)⟩, tb.kept k' ?_, p1.store hk g, a1.kept k' ?_, hl, hb.trans (k'.below hb.size (by simpa using n4)), by simpa using hBo, n1, n2, n3, n4, n5, n6, n7, n8, n9, n10⟩
  · intro x hx
    simp at hx
    subst hx
    obtain ⟨c, hc, _⟩ := p1
    exact .inr ⟨c, hc⟩
  · obtain ⟨c, hc, _⟩ := p1
    simp
    rintro rfl
    unfold ArrAt at a1
    rw [a1] at hc
    simp at hc
end
end Go.Proofs.Yoefew
