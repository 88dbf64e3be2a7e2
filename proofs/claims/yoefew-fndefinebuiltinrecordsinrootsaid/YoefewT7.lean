import Derived.Test.YoefewT6
namespace Go.Proofs.Yoefew
open Go.RowKit Go.Maps
section
variable {w : World} {b mb n : Nat} {par : Option Addr} {fr bu : Value} {blk : Bool} {nd md : Int} {f : List UInt8 → Option Nat} {s : ByteArray}

theorem TabAt.set6 {v : Value} (h : TabAt w b par blk mb nd md fr bu) : TabAt (w.setCell ⟨b, 6, none⟩ v) b par blk mb nd md fr v := heap_setCell_same h 6 _
theorem TabAt.set5 {v : Value} (h : TabAt w b par blk mb nd md fr bu) : TabAt (w.setCell ⟨b, 5, none⟩ v) b par blk mb nd md v bu := heap_setCell_same h 5 _

theorem sym_made (w : World) (s sc : ByteArray) (idx : Int) : SymAt (w.alloc (.cells #[.string s, .string sc, .int .i64 idx, .bool false] 39)) w.heap.size s sc idx false :=
  (MapKept.heap_alloc w _).1

theorem kept_grownBy {S : List Nat} {a w w' : World} {row : Option Nat} (h : Kept S a w) (hg : w.grownBy w' row) (hr : ∀ k, row = some k → k ∈ S ∨ a.heap.size ≤ k) : Kept S a w' := by
  refine ⟨hg.os.trans h.os, hg.tape.trans h.tape, hg.output.trans h.output, Nat.le_trans h.size hg.size, fun i hi hn => ?_⟩
  rw [hg.block i (by have := h.size; omega) (fun e => by
    rcases hr i e.symm with h' | h'
    · exact hn h'
    · omega)]
  exact h.block i hi hn

theorem db_root {B : Nat} {gs : List Nat} {idx : Int} (h : TabAt w b none blk mb nd md fr bu) (hm : MapAt w mb n f) (ho : OwnsPtrs w B bu gs) (hs : s.size ≤ maxLen) (hn : n < maxLen) (hg : gs.length ≤ 10000000) (hB : B ≤ w.heap.size) (hne : b ≠ mb) :
    Calls Efeg.prog 30 #[.pointer (some ⟨b, 0, none⟩), .int .i64 idx, .string s] w fun e w' => ∃ sb bu', e = .returned (.pointer (some ⟨sb, 0, none⟩)) ∧ w.heap.size ≤ sb ∧
      SymAt w' sb s ⟨#[66, 85, 73, 76, 84, 73, 78]⟩ idx false ∧ TabAt w' b none blk mb nd md fr bu' ∧ MapAt w' mb (n + 1) (upd f s sb) ∧ OwnsPtrs w' B bu' (gs ++ [sb]) ∧ Kept (b :: mb :: bu.ownBlock.toList) w w' := by
  have c0 : w.cell? ⟨b, 0, none⟩ = some (.pointer none) := by unfold TabAt at h; simp [World.cell?, h]
  have c2 : w.cell? ⟨b, 2, none⟩ = some (.map (some mb)) := by unfold TabAt at h; simp [World.cell?, h]
  have hlt := h.lt
  have kA : Kept [] w (w.alloc (.cells #[.string s, .string ⟨#[66, 85, 73, 76, 84, 73, 78]⟩, .int .i64 idx, .bool false] 39)) := (Kept.refl _ _).alloc _
  have t1 := h.kept kA (by simp)
  have m1 := hm.kept kA (by simp)
  have o1 := ho.kept kA (by simp)
  have s1 := sym_made w s ⟨#[66, 85, 73, 76, 84, 73, 78]⟩ idx
  have hms : mb < w.heap.size := hm.lt
  have hob : ∀ x, bu.ownBlock = some x → x ≠ b ∧ x ≠ mb ∧ x < w.heap.size := by
    intro x hx
    obtain ⟨_, cur, hc⟩ := ho.block hx
    refine ⟨?_, ?_, (Array.getElem?_eq_some_iff.1 hc).1⟩
    · rintro rfl; unfold TabAt at h; rw [h] at hc; simp at hc
    · rintro rfl; obtain ⟨D, ⟨es, cl, hh, _⟩, _⟩ := hm; rw [hh] at hc; cases hc
  have HOB := hide hob
  clear hob h hm ho
  go_enter Efeg.func30, Efeg.ntmps30
  go_wp2_with (at_mapUpdate; refine wpList_store_sym _ rfl _ _ _ rfl mb n f s w.heap.size rfl rfl rfl m1 hn hs ?_)
  intro w2 m2 ht2
  have k2 : Kept [mb] _ w2 := (Kept.refl _ _).turned ht2 (by simp)
  have t2 := t1.kept k2 (by simpa using hne)
  have s2 := s1.kept k2 (by simp; omega)
  have o2 := o1.kept k2 (fun x hx => by simpa using (unhide HOB x hx).2.1)
  have K2 : Kept (b :: mb :: bu.ownBlock.toList) w w2 := (kA.mono (by simp)).trans (k2.mono (by simp))
  have hz2 : w.heap.size < w2.heap.size := s2.lt
  have hsz := K2.size
  have d6 : w2.cell? ⟨b, 6, none⟩ = some bu := by unfold TabAt at t2; simp [World.cell?, t2]
  have f6 := t2.frozen 6
  clear t1 m1 o1 s1 kA k2 ht2 c0 c2
  generalize hsbe : w.heap.size = sb at *
  have HE := hide hsbe
  clear hsbe
  have kB : Kept [] w2 (w2.alloc (.cells #[sptr sb] 29)) := (Kept.refl _ _).alloc _
  have o3 := o2.kept kB (by simp)
  have e3 : (w2.alloc (.cells #[sptr sb] 29)).cell? ⟨w2.heap.size, 0, none⟩ = some (sptr sb) := by simp
  go_wp2_with (at_builtin; refine wpList_append_sym _ rfl _ _ rfl B bu gs rfl o3 w2.heap.size sb rfl e3 hg (by simp; omega) ?_)
  intro g cap w3 o4 hg3
  have k3 : Kept bu.ownBlock.toList w2 w3 := kept_grownBy (kB.mono (by simp)) hg3 (fun x hx => by simp [hx])
  have nb : ∀ x, (∀ y, bu.ownBlock = some y → y ≠ x) → x ∉ bu.ownBlock.toList := fun x hx hm => by
    simp at hm
    exact hx x hm rfl
  have t3 := t2.kept k3 (nb b fun y hy => (unhide HOB y hy).1)
  have m3 := m2.kept k3 (nb mb fun y hy => (unhide HOB y hy).2.1)
  have s3 := s2.kept k3 (nb sb fun y hy => by have := (unhide HOB y hy).2.2; omega)
  have K3 : Kept (b :: mb :: bu.ownBlock.toList) w w3 := K2.trans (k3.mono (by intro x hx; simp at hx; simp [hx]))
  have hgb : g ≠ b := by
    obtain ⟨_, cur, hc⟩ := o4.block (b := g) (by simp [Value.ownBlock])
    rintro rfl
    unfold TabAt at t3
    rw [t3] at hc
    simp at hc
  have d6' : w3.cell? ⟨b, 6, none⟩ = some bu := by unfold TabAt at t3; simp [World.cell?, t3]
  have f6' := t3.frozen 6
  have k4 : Kept [b] w3 (w3.setCell ⟨b, 6, none⟩ (.slice (some ⟨g, 0, none⟩) (gs.length + 1) cap)) := (Kept.refl _ _).setCell (by simp) _
  have t4 := t3.set6 (v := .slice (some ⟨g, 0, none⟩) (gs.length + 1) cap)
  have m4 := m3.kept k4 (by simpa using hne.symm)
  have s4 := s3.kept k4 (by simp; omega)
  have o5 := o4.kept k4 (fun x hx => by simp [Value.ownBlock] at hx; subst hx; simpa using hgb)
  have K4 := K3.trans (k4.mono (T := b :: mb :: bu.ownBlock.toList) (by simp))
  clear t2 m2 s2 t3 m3 s3 k3 K2 K3 k4 o2 o3 o4 kB e3 d6 f6
  go_wp2_with fail
  go_ret
  exact ⟨sb, _, rfl, Nat.le_of_eq (unhide HE), s4, t4, m4, o5, K4⟩

/-- .. through a table that is not the root. -/
theorem db_up {p : Addr} {idx : Int} {R : Value → World → Prop} (h : TabAt w b (some p) blk mb nd md fr bu) (hc : Calls Efeg.prog 30 #[.pointer (some p), .int .i64 idx, .string s] w fun e w' => ∃ v, e = .returned v ∧ R v w') :
    Calls Efeg.prog 30 #[.pointer (some ⟨b, 0, none⟩), .int .i64 idx, .string s] w fun e w' => ∃ v, e = .returned v ∧ R v w' := by
  have c0 : w.cell? ⟨b, 0, none⟩ = some (.pointer (some p)) := by unfold TabAt at h; simp [World.cell?, h]
  have HC := hide hc
  clear hc
  go_enter Efeg.func30, Efeg.ntmps30
  go_wp2_with fail
  refine (unhide HC).mono ?_
  rintro e w' ⟨v, rfl, hR⟩
  go_wp2_with fail
  go_ret
  exact ⟨v, rfl, hR⟩
end
end Go.Proofs.Yoefew
