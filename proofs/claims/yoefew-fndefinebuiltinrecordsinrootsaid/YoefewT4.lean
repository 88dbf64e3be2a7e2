import Derived.Test.YoefewT3
namespace Go.Proofs.Yoefew
open Go.RowKit Go.Maps
section
variable {w : World} {b mb n : Nat} {par : Option Addr} {fr bu : Value} {blk : Bool} {nd md : Int} {f : List UInt8 → Option Nat} {s : ByteArray}

theorem define_global {idx : Int} {R : World → World → Prop} (h : TabAt w b none blk mb nd md fr bu) (hm : MapAt w mb n f) (hs : s.size ≤ maxLen) (hn : n < maxLen) (hne : b ≠ mb)
    (h0 : 0 ≤ nd) (h1 : nd ≤ 1000000000) (h2 : 0 ≤ idx) (h3 : idx ≤ 1000000000)
    (hnext : Calls Efeg.prog 35 #[.pointer (some ⟨b, 0, none⟩)] w fun e w' => e = .returned (.int .i64 idx) ∧ Same w w')
    (hpar : ∀ w1, Kept [b] w w1 → TabAt w1 b none blk mb (nd + 1) md fr bu → Calls Efeg.prog 14 #[.pointer (some ⟨b, 0, none⟩), .bool true] w1 fun e w' => e = .returned (.pointer none) ∧ w1 = w')
    (humd : ∀ w1, Kept [b, mb] w w1 → TabAt w1 b none blk mb (nd + 1) md fr bu → Calls Efeg.prog 36 #[.pointer (some ⟨b, 0, none⟩), .int .i64 (idx + 1)] w1 fun e w' => e = .returned (.tuple #[]) ∧ R w1 w') :
    Calls Efeg.prog 22 #[.pointer (some ⟨b, 0, none⟩), .string s] w fun e w' => ∃ sb w1, e = .returned (.pointer (some ⟨sb, 0, none⟩)) ∧ w.heap.size ≤ sb ∧
      SymAt w1 sb s ⟨#[71, 76, 79, 66, 65, 76]⟩ idx false ∧ TabAt w1 b none blk mb (nd + 1) md fr bu ∧ MapAt w1 mb (n + 1) (upd f s sb) ∧ Kept [b, mb] w w1 ∧ R w1 w' := by
  have HN := hide hnext
  have HP := hide hpar
  have HU := hide humd
  have HT := hide h
  have HM := hide hm
  clear hnext hpar humd h hm
  go_enter Efeg.func22, Efeg.ntmps22
  go_wp2_with fail
  refine (unhide HN).mono ?_
  rintro e w0 ⟨rfl, hsame⟩
  have h' : TabAt w0 b none blk mb nd md fr bu := (unhide HT).kept (S := []) hsame.kept (by simp)
  have hm' : MapAt w0 mb n f := (unhide HM).kept (S := []) hsame.kept (by simp)
  have c3 : w0.cell? ⟨b, 3, none⟩ = some (.int .i64 nd) := by unfold TabAt at h'; simp [World.cell?, h']
  have f3 := h'.frozen 3
  have hlt := h'.lt
  have HK1 : Hid (Kept [b] w w0) := hsame.kept
  have hsz : w.heap.size ≤ w0.heap.size := by rw [hsame.heap]; exact Nat.le_refl _
  clear hsame
  go_wp2_with fail
  refine calls_forget (fun w1 => TabAt w1 b none blk mb (nd + 1) md fr bu ∧ SymAt w1 w0.heap.size s ⟨#[]⟩ idx false ∧ MapAt w1 mb n f ∧ Kept [b] w0 w1) (define_step1 h' hm' idx hne) ?_
  rintro w1 ⟨t1, s1, m1, k1⟩
  have k1' : Kept [b] w w1 := ((unhide HK1)).trans k1
  clear h' hm' c3 f3 hlt k1
  generalize w0.heap.size = sb at *
  refine (unhide HP w1 k1' t1).mono ?_
  rintro e w2 ⟨rfl, rfl⟩
  have g1 : w1.cell? ⟨sb, 1, none⟩ = some (.string ⟨#[]⟩) := by unfold SymAt at s1; simp [World.cell?, s1]
  have gf := s1.frozen 1
  have c0 : w1.cell? ⟨b, 0, none⟩ = some (.pointer none) := by unfold TabAt at t1; simp [World.cell?, t1]
  have c2 : w1.cell? ⟨b, 2, none⟩ = some (.map (some mb)) := by unfold TabAt at t1; simp [World.cell?, t1]
  have hK2 : Kept [b, mb] w (w1.setCell ⟨sb, 1, none⟩ (.string ⟨#[71, 76, 79, 66, 65, 76]⟩)) := (k1'.mono (by simp)).setCell (by simp; omega) _
  have hk2 : Kept [sb] w1 (w1.setCell ⟨sb, 1, none⟩ (.string ⟨#[71, 76, 79, 66, 65, 76]⟩)) := (Kept.refl _ _).setCell (by simp) _
  have hbs : b ≠ sb := by intro e; subst e; unfold SymAt at s1; unfold TabAt at t1; rw [s1] at t1; cases t1
  have hms : mb ≠ sb := by intro e; subst e; obtain ⟨D, ⟨es, cl, hh, _⟩, _⟩ := m1; unfold SymAt at s1; rw [s1] at hh; cases hh
  have s2 := s1.set1 (sc' := ⟨#[71, 76, 79, 66, 65, 76]⟩)
  have t2 := t1.kept hk2 (by simpa using hbs)
  have m2 := m1.kept hk2 (by simpa using hms)
  clear s1 t1 m1 k1' hk2
  go_wp2_with (at_mapUpdate; refine wpList_store_sym _ rfl _ _ _ rfl mb n f s sb rfl rfl rfl m2 hn hs ?_)
  intro w3 m3 ht3
  have hK3 := hK2.turned ht3 (by simp)
  have k3 : Kept [mb] _ w3 := (Kept.refl _ _).turned ht3 (by simp)
  have s3 := s2.kept k3 (by simpa using hms.symm)
  have t3 := t2.kept k3 (by simpa using hne)
  have g2 : w3.cell? ⟨sb, 2, none⟩ = some (.int .i64 idx) := by unfold SymAt at s3; simp [World.cell?, s3]
  clear s2 t2 m2 k3 ht3 hK2 g1 gf c2 c0
  go_wp2_with fail
  refine (unhide HU w3 hK3 t3).mono ?_
  rintro e w4 ⟨rfl, hR⟩
  go_wp2_with fail
  go_ret
  exact ⟨sb, w3, rfl, hsz, s3, t3, m3, hK3, hR⟩

theorem define_root (h : TabAt w b none false mb nd md fr bu) (hm : MapAt w mb n f) (hs : s.size ≤ maxLen) (hn : n < maxLen) (hne : b ≠ mb) (h0 : 0 ≤ nd) (h1 : nd ≤ 1000000000) :
    Calls Efeg.prog 22 #[.pointer (some ⟨b, 0, none⟩), .string s] w fun e w' => ∃ sb, e = .returned (.pointer (some ⟨sb, 0, none⟩)) ∧ w.heap.size ≤ sb ∧
      SymAt w' sb s ⟨#[71, 76, 79, 66, 65, 76]⟩ nd false ∧ TabAt w' b none false mb (nd + 1) (max md (nd + 1)) fr bu ∧ MapAt w' mb (n + 1) (upd f s sb) ∧ Kept [b, mb] w w' := by
  refine (define_global (R := fun w1 w' => TabAt w' b none false mb (nd + 1) (max md (nd + 1)) fr bu ∧ Kept [b] w1 w') h hm hs hn hne h0 h1 h0 h1
    ((next_nb h).mono ?_) (fun w1 _ t => parent_nb t) (fun w1 _ t => umd_nb t _)).mono ?_
  · rintro e w' ⟨rfl, rfl⟩
    exact ⟨rfl, Same.refl _⟩
  · rintro e w' ⟨sb, w1, rfl, hsb, hsy, _, hmp, hk, ht, hk'⟩
    have := h.lt
    exact ⟨sb, rfl, hsb, hsy.kept hk' (by simp; omega), ht, hmp.kept hk' (by simpa using hne.symm), hk.trans (hk'.mono (by simp))⟩

theorem define_fn {q : Addr} (h : TabAt w b (some q) false mb nd md fr bu) (hm : MapAt w mb n f) (hs : s.size ≤ maxLen) (hn : n < maxLen) (hne : b ≠ mb) (h0 : 0 ≤ nd) (h1 : nd ≤ 1000000000) :
    Calls Efeg.prog 22 #[.pointer (some ⟨b, 0, none⟩), .string s] w fun e w' => ∃ sb, e = .returned (.pointer (some ⟨sb, 0, none⟩)) ∧ w.heap.size ≤ sb ∧
      SymAt w' sb s ⟨#[76, 79, 67, 65, 76]⟩ nd false ∧ TabAt w' b (some q) false mb (nd + 1) (max md (nd + 1)) fr bu ∧ MapAt w' mb (n + 1) (upd f s sb) ∧ Kept [b, mb] w w' := by
  refine (define_local (R := fun w1 w' => TabAt w' b (some q) false mb (nd + 1) (max md (nd + 1)) fr bu ∧ Kept [b] w1 w') h hm hs hn hne h0 h1 h0 h1
    ((next_nb h).mono ?_) (fun w1 _ t => parent_nb t) (fun w1 _ t => umd_nb t _)).mono ?_
  · rintro e w' ⟨rfl, rfl⟩
    exact ⟨rfl, Same.refl _⟩
  · rintro e w' ⟨sb, w1, rfl, hsb, hsy, _, hmp, hk, ht, hk'⟩
    have := h.lt
    exact ⟨sb, rfl, hsb, hsy.kept hk' (by simp; omega), ht, hmp.kept hk' (by simpa using hne.symm), hk.trans (hk'.mono (by simp))⟩

/-- A block of a function's table. -/
theorem define_blk {p mbp : Nat} {q : Addr} {ndp mdp : Int} {frp bup : Value} (h : TabAt w b (some ⟨p, 0, none⟩) true mb nd md fr bu) (hp : TabAt w p (some q) false mbp ndp mdp frp bup) (hm : MapAt w mb n f) (hs : s.size ≤ maxLen) (hn : n < maxLen)
    (hne : b ≠ mb) (hbp : b ≠ p) (hmp : mb ≠ p) (h0 : 0 ≤ nd) (h1 : 0 ≤ ndp) (h2 : ndp + nd ≤ 1000000000) :
    Calls Efeg.prog 22 #[.pointer (some ⟨b, 0, none⟩), .string s] w fun e w' => ∃ sb, e = .returned (.pointer (some ⟨sb, 0, none⟩)) ∧ w.heap.size ≤ sb ∧
      SymAt w' sb s ⟨#[76, 79, 67, 65, 76]⟩ (ndp + nd) false ∧ TabAt w' b (some ⟨p, 0, none⟩) true mb (nd + 1) (max md (ndp + nd + 1)) fr bu ∧ TabAt w' p (some q) false mbp ndp (max mdp (ndp + nd + 1)) frp bup ∧
      MapAt w' mb (n + 1) (upd f s sb) ∧ Kept [b, mb, p] w w' := by
  refine (define_local (idx := ndp + nd) (q := q) (R := fun w1 w' => ∃ w2, Kept [b] w1 w2 ∧ TabAt w2 b (some ⟨p, 0, none⟩) true mb (nd + 1) (max md (ndp + nd + 1)) fr bu ∧ TabAt w' p (some q) false mbp ndp (max mdp (ndp + nd + 1)) frp bup ∧ Kept [p] w2 w')
    h hm hs hn hne h0 (by omega) (by omega) h2 ((next_up h (fun m => (next_nb (hp.kept (S := []) (Same.drewN w m).kept (by simp))).mono ?_) h1 h0 h2).mono ?_) (fun w1 k t => parent_up t (parent_nb (hp.kept k (by simpa using hbp.symm)))) (fun w1 k t => (umd_up (R := fun w2 w' => TabAt w' p (some q) false mbp ndp (max mdp (ndp + nd + 1)) frp bup ∧ Kept [p] w2 w') t (fun w2 k2 t2 => umd_nb ((hp.kept k (by simp; omega)).kept k2 (by simp; omega)) _)).mono ?_)).mono ?_
  · rintro e w' ⟨rfl, rfl⟩
    exact ⟨rfl, _, rfl⟩
  · rintro e w' ⟨rfl, m, rfl⟩
    exact ⟨rfl, Same.drewN _ _⟩
  · rintro e w' ⟨rfl, w2, r⟩
    exact ⟨rfl, w2, r⟩
  · rintro e w' ⟨sb, w1, rfl, hsb, hsy, _, hmp', hk, w2, hk2, ht2, htp, hk3⟩
    have := h.lt
    have := hp.lt
    exact ⟨sb, rfl, hsb, (hsy.kept hk2 (by simp; omega)).kept hk3 (by simp; omega), ht2.kept hk3 (by simpa using hbp), htp, (hmp'.kept hk2 (by simpa using hne.symm)).kept hk3 (by simpa using hmp),
      (hk.mono (by simp)).trans ((hk2.mono (by simp)).trans (hk3.mono (by simp)))⟩
end
end Go.Proofs.Yoefew
