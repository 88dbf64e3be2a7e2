import Derived.Test.YoefewT7
import Derived.RegionTactic
import Derived.BigRegion
namespace Go.Proofs.Yoefew
open Go.RowKit Go.Maps

theorem wp_forget {P : Program} {c : Code} {Q : Exit → Act → World → Prop} {a : Act} {w : World} (F : World → Prop) (hF : F w) (h : ∀ w1, F w1 → Code.wp P c Q a w1) : Code.wp P c Q a w := h w hF

section
variable {w : World} {b mb n : Nat} {par : Option Addr} {fr bu : Value} {blk : Bool} {nd md : Int} {f : List UInt8 → Option Nat}

theorem free_root {B ob : Nat} {gs : List Nat} {name sc : ByteArray} {idx : Int} {la : Bool} (h : TabAt w b par blk mb nd md fr bu) (hm : MapAt w mb n f) (ho : OwnsPtrs w B fr gs) (hsy : SymAt w ob name sc idx la) (hs : name.size ≤ maxLen) (hn : n < maxLen) (hg : gs.length ≤ 10000000) (hB : B ≤ w.heap.size) (hne : b ≠ mb) :
    Calls Efeg.prog 34 #[.pointer (some ⟨b, 0, none⟩), .pointer (some ⟨ob, 0, none⟩)] w fun e w' => ∃ sb fr', e = .returned (.pointer (some ⟨sb, 0, none⟩)) ∧ w.heap.size ≤ sb ∧
      SymAt w' sb name ⟨#[70, 82, 69, 69]⟩ gs.length false ∧ TabAt w' b par blk mb nd md fr' bu ∧ MapAt w' mb (n + 1) (upd f name sb) ∧ OwnsPtrs w' B fr' (gs ++ [ob]) ∧ Kept (b :: mb :: fr.ownBlock.toList) w w' := by
  have hlt := h.lt
  have hob' : ob ≠ b := hsy.ne_tab h
  have hom : ob ≠ mb := hsy.ne_map hm
  have hob : ∀ x, fr.ownBlock = some x → x ≠ b ∧ x ≠ mb ∧ x ≠ ob ∧ x < w.heap.size := by
    intro x hx
    obtain ⟨_, cur, hc⟩ := ho.block hx
    refine ⟨?_, ?_, ?_, (Array.getElem?_eq_some_iff.1 hc).1⟩
    · rintro rfl; unfold TabAt at h; rw [h] at hc; simp at hc
    · rintro rfl; obtain ⟨D, ⟨es, cl, hh, _⟩, _⟩ := hm; rw [hh] at hc; cases hc
    · rintro rfl; unfold SymAt at hsy; rw [hsy] at hc; simp at hc
  have HOB := hide hob
  clear hob
  have d5 : w.cell? ⟨b, 5, none⟩ = some fr := by unfold TabAt at h; simp [World.cell?, h]
  have kB : Kept [] w (w.alloc (.cells #[sptr ob] 29)) := (Kept.refl _ _).alloc _
  have o3 := ho.kept kB (by simp)
  have e3 : (w.alloc (.cells #[sptr ob] 29)).cell? ⟨w.heap.size, 0, none⟩ = some (sptr ob) := by simp
  go_enter Efeg.func34, Efeg.ntmps34
  go_wp2_with (at_builtin; refine wpList_append_sym _ rfl _ _ rfl B fr gs rfl o3 w.heap.size ob rfl e3 hg (by simp; omega) ?_)
  intro g cap w3 o4 hg3
  have k3 : Kept fr.ownBlock.toList w w3 := kept_grownBy (kB.mono (by simp)) hg3 (fun x hx => by simp [hx])
  have nb : ∀ x, (∀ y, fr.ownBlock = some y → y ≠ x) → x ∉ fr.ownBlock.toList := fun x hx hm => by
    simp at hm
    exact hx x hm rfl
  have t3 := h.kept k3 (nb b fun y hy => (unhide HOB y hy).1)
  have m3 := hm.kept k3 (nb mb fun y hy => (unhide HOB y hy).2.1)
  have s3 := hsy.kept k3 (nb ob fun y hy => (unhide HOB y hy).2.2.1)
  have K3 : Kept (b :: mb :: fr.ownBlock.toList) w w3 := k3.mono (by intro x hx; simp at hx; simp [hx])
  have hgb : g ≠ b ∧ g ≠ mb ∧ g ≠ ob := by
    obtain ⟨_, cur, hc⟩ := o4.block (b := g) (by simp [Value.ownBlock])
    refine ⟨?_, ?_, ?_⟩
    · rintro rfl; unfold TabAt at t3; rw [t3] at hc; simp at hc
    · rintro rfl; obtain ⟨D, ⟨es, cl, hh, _⟩, _⟩ := m3; rw [hh] at hc; cases hc
    · rintro rfl; unfold SymAt at s3; rw [s3] at hc; simp at hc
  have d5' : w3.cell? ⟨b, 5, none⟩ = some fr := by unfold TabAt at t3; simp [World.cell?, t3]
  have f5' := t3.frozen 5
  have k4 : Kept [b] w3 (w3.setCell ⟨b, 5, none⟩ (.slice (some ⟨g, 0, none⟩) (gs.length + 1) cap)) := (Kept.refl _ _).setCell (by simp) _
  have t4 := t3.set5 (v := .slice (some ⟨g, 0, none⟩) (gs.length + 1) cap)
  have m4 := m3.kept k4 (by simpa using hne.symm)
  have s4 := s3.kept k4 (by simpa using hob')
  have o5 := o4.kept k4 (fun x hx => by simp [Value.ownBlock] at hx; subst hx; simpa using hgb.1)
  have K4 := K3.trans (k4.mono (T := b :: mb :: fr.ownBlock.toList) (by simp))
  clear t3 m3 s3 k3 K3 k4 o3 o4 kB e3 d5 h hm ho hsy
  go_wp2_with fail
  refine wp_forget (fun w5 => TabAt w5 b par blk mb nd md (.slice (some ⟨g, 0, none⟩) (gs.length + 1) cap) bu ∧ MapAt w5 mb n f ∧ SymAt w5 ob name sc idx la ∧ OwnsPtrs w5 B (.slice (some ⟨g, 0, none⟩) (gs.length + 1) cap) (gs ++ [ob]) ∧ Kept (b :: mb :: fr.ownBlock.toList) w w5) ⟨t4, m4, s4, o5, K4⟩ ?_
  clear t4 m4 s4 o5 K4 d5' f5' hg3
  rintro w5 ⟨t5, m5, s5, o5, K5⟩
  have x5 : w5.cell? ⟨b, 5, none⟩ = some (.slice (some ⟨g, 0, none⟩) (gs.length + 1) cap) := by unfold TabAt at t5; simp [World.cell?, t5]
  have y0 := s5.c0
  have hgl : (gs.length : Int) ≤ 10000000 := by omega
  go_region
  go_wp2_with fail
  have kC : Kept [] w5 ((w5.alloc (.cells #[.string name, .string ⟨#[70, 82, 69, 69]⟩, .int .i64 gs.length, .bool false] 39)).drew) := ((Kept.refl _ _).alloc _).drew
  refine wp_forget (fun w6 => TabAt w6 b par blk mb nd md (.slice (some ⟨g, 0, none⟩) (gs.length + 1) cap) bu ∧ MapAt w6 mb n f ∧ SymAt w6 ob name sc idx la ∧ OwnsPtrs w6 B (.slice (some ⟨g, 0, none⟩) (gs.length + 1) cap) (gs ++ [ob]) ∧ Kept (b :: mb :: fr.ownBlock.toList) w w6 ∧ SymAt w6 w5.heap.size name ⟨#[70, 82, 69, 69]⟩ gs.length false)
    ⟨t5.kept kC (by simp), m5.kept kC (by simp), s5.kept kC (by simp), o5.kept kC (by simp), K5.trans (kC.mono (by simp)), sym_made w5 name ⟨#[70, 82, 69, 69]⟩ gs.length⟩ ?_
  clear kC t5 m5 s5 o5 x5 y0
  rintro w6 ⟨t6, m6, s6, o6, K6, n6⟩
  have hge : w.heap.size ≤ w5.heap.size := K5.size
  clear K5
  generalize w5.heap.size = sb at *
  obtain ⟨w7, hst, m7, ht7⟩ := (m6.same (w' := w6.drew) rfl).store hn hs sb
  have k7 : Kept [mb] w6 w7 := ((Kept.refl _ _).drew).turned ht7 (by simp)
  have t7 := t6.kept k7 (by simpa using hne)
  have n7 := n6.kept k7 (by simpa using n6.ne_map m6)
  have o7 := o6.kept k7 (fun x hx => by simp [Value.ownBlock] at hx; subst hx; simpa using hgb.2.1)
  have K7 := K6.trans (k7.mono (T := b :: mb :: fr.ownBlock.toList) (by simp))
  have x2 : w6.cell? ⟨b, 2, none⟩ = some (.map (some mb)) := by unfold TabAt at t6; simp [World.cell?, t6]
  have y0 := s6.c0
  clear t6 s6 n6 o6 K6 k7 m6 ht7
  go_region
  go_wp2_with fail
  go_ret
  exact ⟨sb, _, rfl, hge, n7, t7, m7, o7, K7⟩
end
end Go.Proofs.Yoefew
