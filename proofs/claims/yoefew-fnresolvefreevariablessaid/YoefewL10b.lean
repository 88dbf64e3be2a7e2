import Derived.Test.YoefewL10
namespace Go.Proofs.Yoefew
open Go.RowKit Go.Maps

/-- The numbers of the tables' blocks lie apart, and from the inner function's table on all is younger. -/
def Apart (w : World) (r mr fb mf qb gb mg Bg : Nat) : Prop :=
  w.heap.size ≤ gb ∧ w.heap.size ≤ mg ∧ gb ≠ mg ∧ r < Bg ∧ mr < Bg ∧ fb < Bg ∧ mf < Bg ∧ qb < Bg ∧ Bg ≤ gb ∧ Bg ≤ mg ∧ w.heap.size ≤ Bg

/-- The state in the law's second loop: 'sn' what has been captured, 'fs' the free symbols, 'og' the originals. -/
def G10 (w : World) (r mr fb mf qb gb mg Bg : Nat) (ss : List ByteArray) (ls : List Nat) (sn : List ByteArray) (fs og : List Nat) (wr : World) : Prop :=
  TabAt wr r none false mr 0 0 (.slice none 0 0) (.slice none 0 0) ∧ MapAt wr mr 0 (fun _ => none) ∧ T11 w r fb mf qb ss ss.length ls ls wr ∧
  fs.length = sn.length ∧ og.length = sn.length ∧
  (∃ frv, TabAt wr gb (some ⟨fb, 0, none⟩) false mg 0 0 frv (.slice none 0 0) ∧ OwnsPtrs wr Bg frv og) ∧ MapAt wr mg sn.length (look sn fs sn.length) ∧
  NSyms wr ⟨#[70, 82, 69, 69]⟩ sn fs ∧
  (∀ (k : Nat) (p : ByteArray), sn[k]? = some p → p.size ≤ maxLen ∧ lastIdx sn p = k ∧ ∃ j g : Nat, lastIdx ss p = j ∧ j < ss.length ∧ ls[j]? = some g ∧ og[k]? = some g) ∧
  Below w.heap.size w wr ∧ Bg ≤ wr.heap.size

section
variable {w wr : World} {r mr fb mf qb gb mg Bg : Nat} {ss : List ByteArray} {ls : List Nat} {sn : List ByteArray} {fs og : List Nat}

theorem G10.below (h : G10 w r mr fb mf qb gb mg Bg ss ls sn fs og wr) : Below w.heap.size w wr := by
  obtain ⟨_, _, _, _, _, _, _, _, _, hb, _⟩ := h
  exact hb
theorem G10.t11 (h : G10 w r mr fb mf qb gb mg Bg ss ls sn fs og wr) : T11 w r fb mf qb ss ss.length ls ls wr := by
  obtain ⟨_, _, hT, _⟩ := h
  exact hT
theorem G10.seen (h : G10 w r mr fb mf qb gb mg Bg ss ls sn fs og wr) : ∀ (k : Nat) (p : ByteArray), sn[k]? = some p → p.size ≤ maxLen ∧ lastIdx sn p = k ∧ ∃ j g : Nat, lastIdx ss p = j ∧ j < ss.length ∧ ls[j]? = some g ∧ og[k]? = some g := by
  obtain ⟨_, _, _, _, _, _, _, _, hs, _⟩ := h
  exact hs
theorem G10.free (h : G10 w r mr fb mf qb gb mg Bg ss ls sn fs og wr) : og.length = sn.length ∧ ∃ frv, TabAt wr gb (some ⟨fb, 0, none⟩) false mg 0 0 frv (.slice none 0 0) ∧ OwnsPtrs wr Bg frv og := by
  obtain ⟨_, _, _, _, ho, hf, _⟩ := h
  exact ⟨ho, hf⟩

/-- What touches no table, no symbol, no map and no row of pointers keeps the state. -/
theorem G10.kept {S : List Nat} {w' : World} (h : G10 w r mr fb mf qb gb mg Bg ss ls sn fs og wr) (kp : Kept S wr w') (hS : ∀ x ∈ S, RowT wr x 9 ∧ w.heap.size ≤ x) : G10 w r mr fb mf qb gb mg Bg ss ls sn fs og w' := by
  obtain ⟨h1, h2, h3, h4, h5, ⟨frv, h6, h6'⟩, h7, h8, h9, h10, h11⟩ := h
  have n56 : ∀ b, RowT wr b 56 → b ∉ S := fun b hb hm => (hb.ne (hS b hm).1 (by decide)) rfl
  have n39 : ∀ b, RowT wr b 39 → b ∉ S := fun b hb hm => (hb.ne (hS b hm).1 (by decide)) rfl
  have n29 : ∀ b, RowT wr b 29 → b ∉ S := fun b hb hm => (hb.ne (hS b hm).1 (by decide)) rfl
  have nm : ∀ b n f, MapAt wr b n f → b ∉ S := fun b n f hb hm => ((hS b hm).1.ne_map hb) rfl
  refine ⟨h1.kept kp (n56 _ h1.rowT), h2.kept kp (nm _ _ _ h2), h3.kept kp (n56 _ h3.tab.rowT) (nm _ _ _ h3.map) (n29 _ h3.ptrs.rowT) (fun g nm' i hg => n39 _ hg.rowT), h4, h5,
    ⟨frv, h6.kept kp (n56 _ h6.rowT), h6'.kept kp (fun b hb => n29 _ (h6'.rowT hb))⟩, h7.kept kp (nm _ _ _ h7), h8.kept kp (fun g nm' i hg => n39 _ hg.rowT), h9, h10.trans (kp.below h10.size fun x hx => (hS x hx).2), Nat.le_trans h11 kp.size⟩

theorem G10.drewN (h : G10 w r mr fb mf qb gb mg Bg ss ls sn fs og wr) (n : Nat) : G10 w r mr fb mf qb gb mg Bg ss ls sn fs og (wr.drewN n) :=
  h.kept (S := []) (Same.drewN wr n).kept (by simp)

/-- A name that is no local. -/
theorem G10.missing (h : G10 w r mr fb mf qb gb mg Bg ss ls sn fs og wr) {p : ByteArray} (hp : p.size ≤ maxLen) (hl : lastIdx ss p < 0) :
    Calls Efeg.prog 18 #[.pointer (some ⟨gb, 0, none⟩), .string p, .bool false] wr fun e w' => e = .returned (.tuple #[.pointer none, .int .i64 0, .bool false]) ∧ wr = w' := by
  obtain ⟨h1, h2, h3, h4, h5, ⟨frv, h6, h6'⟩, h7, h8, h9, h10, h11⟩ := h
  have e1 : look ss ls ss.length p.data.toList = none := by
    rcases look_last ss ls p ss.length (Nat.le_refl _) with ⟨_, hn⟩ | ⟨j, hj, hl', _⟩
    · exact hn
    · unfold lastIdx at hl; omega
  have e2 : look sn fs sn.length p.data.toList = none := by
    rcases look_last sn fs p sn.length (Nat.le_refl _) with ⟨_, hn⟩ | ⟨k, hk, hl', _⟩
    · exact hn
    · have hg := last_get sn p sn.length k hl'
      obtain ⟨_, _, j, g, hj, _⟩ := h9 k p hg
      omega
  exact resolve_up_none h6 h7 hp (.inl e2) (resolve_up_none h3.tab h3.map hp (.inl e1) (resolve_root_none h1 h2 hp rfl true))

/-- A name that has been captured. -/
theorem G10.hit (h : G10 w r mr fb mf qb gb mg Bg ss ls sn fs og wr) {p : ByteArray} (hp : p.size ≤ maxLen) {k : Nat} (hl : lastIdx sn p = k) :
    ∃ g, SymAt wr g p ⟨#[70, 82, 69, 69]⟩ k false ∧ Calls Efeg.prog 18 #[.pointer (some ⟨gb, 0, none⟩), .string p, .bool false] wr fun e w' => e = .returned (.tuple #[.pointer (some ⟨g, 0, none⟩), .int .i64 0, .bool true]) ∧ wr = w' := by
  obtain ⟨h1, h2, h3, h4, h5, ⟨frv, h6, h6'⟩, h7, h8, h9, h10, h11⟩ := h
  rcases look_last sn fs p sn.length (Nat.le_refl _) with ⟨hn, _⟩ | ⟨k', hk, hl', hlook⟩
  · unfold lastIdx at hl; omega
  · unfold lastIdx at hl
    have e : k' = k := by omega
    subst e
    have hg : fs[k']? = some fs[k'] := by simp
    obtain ⟨s, hs, hsy⟩ := h8 k' _ hg
    have hx := last_get sn p sn.length k' hl'
    rw [hx] at hs
    cases hs
    exact ⟨fs[k'], hsy, resolve_hit h6 h7 hp (hlook.trans hg) hsy false (.inl (by decide +kernel))⟩

/-- A local that has not been captured yet. -/
theorem G10.capture (h : G10 w r mr fb mf qb gb mg Bg ss ls sn fs og wr) (ha : Apart w r mr fb mf qb gb mg Bg) {p : ByteArray} (hp : p.size ≤ maxLen) (hl : lastIdx sn p < 0) {j : Nat} (hj : lastIdx ss p = j) (hsn : sn.length ≤ 10000000) :
    Calls Efeg.prog 18 #[.pointer (some ⟨gb, 0, none⟩), .string p, .bool false] wr fun e w' => ∃ g o : Nat, e = .returned (.tuple #[.pointer (some ⟨g, 0, none⟩), .int .i64 1, .bool true]) ∧ SymAt w' g p ⟨#[70, 82, 69, 69]⟩ sn.length false ∧
      G10 w r mr fb mf qb gb mg Bg ss ls (sn ++ [p]) (fs ++ [g]) (og ++ [o]) w' ∧ (∀ b B cap (t : List ByteArray), OwnsStrs wr B b cap t → OwnsStrs w' B b cap t) := by
  obtain ⟨h1, h2, h3, h4, h5, ⟨frv, h6, h6'⟩, h7, h8, h9, h10, h11⟩ := h
  obtain ⟨a1, a2, a3, a4, a5, a6, a7, a8, a9, a10, a11⟩ := ha
  have e2 : look sn fs sn.length p.data.toList = none := by
    rcases look_last sn fs p sn.length (Nat.le_refl _) with ⟨_, hn⟩ | ⟨k, hk, hl', _⟩
    · exact hn
    · unfold lastIdx at hl; omega
  rcases h3.found p with ⟨hneg, _⟩ | ⟨j', lg, hj', hjlt, hlook, hsl, hlj, hlg⟩
  · omega
  have ejj : j' = j := by omega
  subst ejj
  have hres := resolve_hit h3.tab h3.map hp hlook hsl true (.inr (.inr rfl))
  refine (resolve_up_free (B := Bg) (recur := false) h6 h7 hp e2 (Int.le_refl 0) (by decide) hsl hp h6' (by unfold maxLen; omega) (by omega) h11 a3 hres).mono ?_
  rintro e w' ⟨g, fr', rfl, hge, s', t', m', o', k'⟩
  have own : ∀ b, frv.ownBlock = some b → RowT wr b 29 ∧ Bg ≤ b := fun b hb => ⟨h6'.rowT hb, (h6'.block hb).1⟩
  have notin : ∀ b, b ≠ gb → b ≠ mg → (∀ x, frv.ownBlock = some x → b ≠ x) → b ∉ (gb :: mg :: frv.ownBlock.toList) := by
    intro b x1 x2 x3 hm
    simp at hm
    rcases hm with hm | hm | hm
    · exact x1 hm
    · exact x2 hm
    · exact x3 b hm rfl
  have n39 : ∀ b, RowT wr b 39 → b ∉ (gb :: mg :: frv.ownBlock.toList) := fun b hb => notin b (hb.ne h6.rowT (by decide)) (hb.ne_map h7) (fun x hx => hb.ne (own x hx).1 (by decide))
  have n9 : ∀ b, RowT wr b 9 → b ∉ (gb :: mg :: frv.ownBlock.toList) := fun b hb => notin b (hb.ne h6.rowT (by decide)) (hb.ne_map h7) (fun x hx => hb.ne (own x hx).1 (by decide))
  have nlow : ∀ b, b < Bg → b ∉ (gb :: mg :: frv.ownBlock.toList) := fun b hb => notin b (by omega) (by omega) (fun x hx => by have := (own x hx).2; omega)
  refine ⟨g, lg, rfl, by rw [h5] at s'; exact s', ⟨h1.kept k' (nlow _ a4), h2.kept k' (nlow _ a5), h3.kept k' (nlow _ a6) (nlow _ a7) (nlow _ a8) (fun x nm' i hg => n39 _ hg.rowT), by simp [h4], by simp [h5], ⟨fr', t', o'⟩, ?_, ?_, ?_, ?_, ?_⟩, ?_⟩
  · have e3 : upd (look sn fs sn.length) p g = look (sn ++ [p]) (fs ++ [g]) (sn.length + 1) := by
      have := look_upd (ss := sn ++ [p]) (gs := fs) (s := p) (g := g) (by rw [h4]; simp)
      rw [h4] at this
      rw [← this, look_append sn [p] fs sn.length (Nat.le_refl _)]
    rw [e3] at m'
    simpa using m'
  · refine NSyms.snoc (s := p) ((h8.kept k' fun x nm' i hg => n39 _ hg.rowT).ext) (by rw [h4]; simp) ?_
    rw [h4]
    rw [h5] at s'
    exact s'
  · intro k q hk
    rw [List.getElem?_append] at hk
    split at hk
    · rename_i hlt
      obtain ⟨b1, b2, j2, g2, b3, b4, b5, b6⟩ := h9 k q hk
      have hne : p ≠ q := by rintro rfl; omega
      refine ⟨b1, by rw [lastIdx_snoc, if_neg hne]; exact b2, j2, g2, b3, b4, b5, ?_⟩
      rw [List.getElem?_append_left (by omega)]
      exact b6
    · rename_i hge'
      rw [List.getElem?_singleton] at hk
      split at hk
      · rename_i hz
        cases hk
        have ek : k = sn.length := by omega
        subst ek
        refine ⟨hp, by rw [lastIdx_snoc, if_pos rfl], j', lg, hj', hjlt, hlj, ?_⟩
        rw [List.getElem?_append_right (by omega), h5]
        simp
      · cases hk
  · refine h10.trans (k'.below h10.size fun x hx => ?_)
    simp at hx
    rcases hx with rfl | rfl | hx
    · exact a1
    · exact a2
    · have := (own x hx).2; omega
  · exact Nat.le_trans h11 k'.size
  · intro b B cap t ht
    exact ht.kept k' (n9 _ ht.rowT.1)
end
end Go.Proofs.Yoefew
