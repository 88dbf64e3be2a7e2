import Derived.Test.YoefewT4
namespace Go.Proofs.Yoefew
open Go.RowKit Go.Maps

def offRoot (r : Nat) : Value → Nat
  | .pointer (some a) => if a.block = r then 0 else 1
  | _ => 0

section
variable {w : World} {b mb n : Nat} {par : Option Addr} {fr bu : Value} {blk : Bool} {nd md : Int} {f : List UInt8 → Option Nat} {s : ByteArray}

theorem define_gblock {idx : Int} {p r mbr : Nat} {ndr mdr : Int} {frr bur : Value} {R : World → World → Prop} (h : TabAt w b (some ⟨p, 0, none⟩) true mb nd md fr bu) (hr : TabAt w r none false mbr ndr mdr frr bur)
    (hpr : p = r ∨ ∃ blk' mb' nd' md' fr' bu', TabAt w p (some ⟨r, 0, none⟩) blk' mb' nd' md' fr' bu')
    (hm : MapAt w mb n f) (hs : s.size ≤ maxLen) (hn : n < maxLen) (hne : b ≠ mb) (hbr : b ≠ r) (hbp : b ≠ p) (hmr : mb ≠ r)
    (h0 : 0 ≤ nd) (h1 : nd ≤ 1000000000) (h2 : 0 ≤ idx) (h3 : idx ≤ 1000000000) (h4 : 0 ≤ ndr) (h5 : ndr ≤ 1000000000)
    (hnext : Calls Efeg.prog 35 #[.pointer (some ⟨b, 0, none⟩)] w fun e w' => e = .returned (.int .i64 idx) ∧ Same w w')
    (hpar : ∀ w1, Kept [b] w w1 → TabAt w1 b (some ⟨p, 0, none⟩) true mb (nd + 1) md fr bu → Calls Efeg.prog 14 #[.pointer (some ⟨b, 0, none⟩), .bool true] w1 fun e w' => e = .returned (.pointer none) ∧ w1 = w')
    (humd : ∀ w1, Kept [b, mb, r] w w1 → TabAt w1 b (some ⟨p, 0, none⟩) true mb nd md fr bu → TabAt w1 r none false mbr (ndr + 1) mdr frr bur → Calls Efeg.prog 36 #[.pointer (some ⟨b, 0, none⟩), .int .i64 (idx + 1)] w1 fun e w' => e = .returned (.tuple #[]) ∧ R w1 w') :
    Calls Efeg.prog 22 #[.pointer (some ⟨b, 0, none⟩), .string s] w fun e w' => ∃ sb w1, e = .returned (.pointer (some ⟨sb, 0, none⟩)) ∧ w.heap.size ≤ sb ∧
      SymAt w1 sb s ⟨#[71, 76, 79, 66, 65, 76]⟩ idx false ∧ TabAt w1 b (some ⟨p, 0, none⟩) true mb nd md fr bu ∧ TabAt w1 r none false mbr (ndr + 1) mdr frr bur ∧ MapAt w1 mb (n + 1) (upd f s sb) ∧ Kept [b, mb, r] w w1 ∧ R w1 w' := by
  have hltb := h.lt
  have hltr := hr.lt
  have hltm := hm.lt
  have HN := hide hnext
  have HP := hide hpar
  have HU := hide humd
  have HT := hide h
  have HR := hide hr
  have HM := hide hm
  have HPR := hide hpr
  clear hnext hpar humd h hm hr hpr
  go_enter Efeg.func22, Efeg.ntmps22
  go_wp2_with fail
  refine (unhide HN).mono ?_
  rintro e w0 ⟨rfl, hsame⟩
  have h' : TabAt w0 b (some ⟨p, 0, none⟩) true mb nd md fr bu := (unhide HT).kept (S := []) hsame.kept (by simp)
  have hm' : MapAt w0 mb n f := (unhide HM).kept (S := []) hsame.kept (by simp)
  have c3 : w0.cell? ⟨b, 3, none⟩ = some (.int .i64 nd) := by unfold TabAt at h'; simp [World.cell?, h']
  have f3 := h'.frozen 3
  have hlt := h'.lt
  have HK1 : Hid (Kept [b] w w0) := hsame.kept
  have hsz : w.heap.size ≤ w0.heap.size := by rw [hsame.heap]; exact Nat.le_refl _
  clear hsame
  go_wp2_with fail
  refine calls_forget (fun w1 => TabAt w1 b (some ⟨p, 0, none⟩) true mb (nd + 1) md fr bu ∧ SymAt w1 w0.heap.size s ⟨#[]⟩ idx false ∧ MapAt w1 mb n f ∧ Kept [b] w0 w1) (define_step1 h' hm' idx hne) ?_
  rintro w1 ⟨t1, s1, m1, k1⟩
  have k1' : Kept [b] w w1 := ((unhide HK1)).trans k1
  clear h' hm' c3 f3 hlt k1
  generalize w0.heap.size = sb at *
  refine (unhide HP w1 k1' t1).mono ?_
  rintro e w2 ⟨rfl, rfl⟩
  have r1 := (unhide HR).kept k1' (by simpa using hbr.symm)
  have g1 : w1.cell? ⟨sb, 1, none⟩ = some (.string ⟨#[]⟩) := by unfold SymAt at s1; simp [World.cell?, s1]
  have gf := s1.frozen 1
  have c0 : w1.cell? ⟨b, 0, none⟩ = some (.pointer (some ⟨p, 0, none⟩)) := by unfold TabAt at t1; simp [World.cell?, t1]
  have c2 : w1.cell? ⟨b, 2, none⟩ = some (.map (some mb)) := by unfold TabAt at t1; simp [World.cell?, t1]
  have c3 : w1.cell? ⟨b, 3, none⟩ = some (.int .i64 (nd + 1)) := by unfold TabAt at t1; simp [World.cell?, t1]
  have f3 := t1.frozen 3
  have d0 : w1.cell? ⟨r, 0, none⟩ = some (.pointer none) := by unfold TabAt at r1; simp [World.cell?, r1]
  have d3 : w1.cell? ⟨r, 3, none⟩ = some (.int .i64 ndr) := by unfold TabAt at r1; simp [World.cell?, r1]
  have e3 := r1.frozen 3
  have hpr1 : Hid (p = r ∨ (p ≠ r ∧ w1.cell? ⟨p, 0, none⟩ = some (.pointer (some ⟨r, 0, none⟩)))) := by
    by_cases e : p = r
    · exact .inl e
    · rcases unhide HPR with e' | ⟨_, _, _, _, _, _, tp⟩
      · exact absurd e' e
      · have tp1 := tp.kept k1' (by simpa using hbp.symm)
        exact .inr ⟨e, by unfold TabAt at tp1; simp [World.cell?, tp1]⟩
  go_wp2_with fail
  go_loop [6] (fun v => v = .pointer (some ⟨r, 0, none⟩) ∨ (v = .pointer (some ⟨p, 0, none⟩) ∧ p ≠ r ∧ w1.cell? ⟨p, 0, none⟩ = some (.pointer (some ⟨r, 0, none⟩)))) (fun v => offRoot r v)
  case atStart =>
    rcases unhide hpr1 with e | ⟨e, e'⟩
    · exact .inl (by rw [e])
    · exact .inr ⟨rfl, e, e'⟩
  case round =>
    rcases hrel with rfl | ⟨rfl, hne', cp⟩
    · have hbs : b ≠ sb := by intro e; subst e; unfold SymAt at s1; unfold TabAt at t1; rw [s1] at t1; cases t1
      have hrs : r ≠ sb := by intro e; subst e; unfold SymAt at s1; unfold TabAt at r1; rw [s1] at r1; cases r1
      have hms : mb ≠ sb := by intro e; subst e; obtain ⟨D, ⟨es, cl, hh, _⟩, _⟩ := m1; unfold SymAt at s1; rw [s1] at hh; cases hh
      have hk2 : Kept [sb] w1 (w1.setCell ⟨sb, 1, none⟩ (.string ⟨#[71, 76, 79, 66, 65, 76]⟩)) := (Kept.refl _ _).setCell (by simp) _
      have t2 := t1.kept hk2 (by simpa using hbs)
      have r2 := r1.kept hk2 (by simpa using hrs)
      have m2 := m1.kept hk2 (by simpa using hms)
      have s2 := s1.set1 (sc' := ⟨#[71, 76, 79, 66, 65, 76]⟩)
      have hk3 : Kept [b] (w1.setCell ⟨sb, 1, none⟩ (.string ⟨#[71, 76, 79, 66, 65, 76]⟩)) ((w1.setCell ⟨sb, 1, none⟩ (.string ⟨#[71, 76, 79, 66, 65, 76]⟩)).setCell ⟨b, 3, none⟩ (.int .i64 nd)) := (Kept.refl _ _).setCell (by simp) _
      have t3 := t2.set3 nd
      have r3 := r2.kept hk3 (by simpa using hbr.symm)
      have m3 := m2.kept hk3 (by simpa using hne.symm)
      have s3 := s2.kept hk3 (by simpa using hbs.symm)
      have hk4 : Kept [r] ((w1.setCell ⟨sb, 1, none⟩ (.string ⟨#[71, 76, 79, 66, 65, 76]⟩)).setCell ⟨b, 3, none⟩ (.int .i64 nd)) (((w1.setCell ⟨sb, 1, none⟩ (.string ⟨#[71, 76, 79, 66, 65, 76]⟩)).setCell ⟨b, 3, none⟩ (.int .i64 nd)).setCell ⟨r, 3, none⟩ (.int .i64 (ndr + 1))) := (Kept.refl _ _).setCell (by simp) _
      have t4 := t3.kept hk4 (by simpa using hbr)
      have r4 := r3.set3 (ndr + 1)
      have m4 := m3.kept hk4 (by simpa using hmr)
      have s4 := s3.kept hk4 (by simpa using hrs.symm)
      have x3 : ((w1.setCell ⟨sb, 1, none⟩ (.string ⟨#[71, 76, 79, 66, 65, 76]⟩)).setCell ⟨b, 3, none⟩ (.int .i64 nd)).cell? ⟨r, 3, none⟩ = some (.int .i64 ndr) := by unfold TabAt at r3; simp [World.cell?, r3]
      have K4 : Kept [b, mb, r] w (((w1.setCell ⟨sb, 1, none⟩ (.string ⟨#[71, 76, 79, 66, 65, 76]⟩)).setCell ⟨b, 3, none⟩ (.int .i64 nd)).setCell ⟨r, 3, none⟩ (.int .i64 (ndr + 1))) :=
        (((k1'.mono (by simp)).setCell (by simp; omega) _).setCell (by simp) _).setCell (by simp) _
      clear t1 r1 m1 s1 t2 r2 m2 s2 t3 r3 m3 s3 hk2 hk3 hk4 k1'
      go_wp2_with (at_mapUpdate; refine wpList_store_sym _ rfl _ _ _ rfl mb n f s sb rfl rfl rfl m4 hn hs ?_)
      intro w5 m5 ht5
      have K5 := K4.turned ht5 (by simp)
      have k5 : Kept [mb] _ w5 := (Kept.refl _ _).turned ht5 (by simp)
      have s5 := s4.kept k5 (by simpa using hms.symm)
      have t5 := t4.kept k5 (by simpa using hne)
      have r5 := r4.kept k5 (by simpa using hmr.symm)
      have g2 : w5.cell? ⟨sb, 2, none⟩ = some (.int .i64 idx) := by unfold SymAt at s5; simp [World.cell?, s5]
      clear s4 t4 r4 m4 k5 ht5 K4 g1 gf c2 c3 c0 d0 d3 e3 f3 x3
      go_wp2_with fail
      refine (unhide HU w5 K5 t5 r5).mono ?_
      rintro e w6 ⟨rfl, hR⟩
      go_wp2_with fail
      go_ret
      exact ⟨sb, w5, rfl, hsz, s5, t5, r5, m5, K5, hR⟩
    · go_wp2_with fail
      go_round
      case rel => exact .inl rfl
      case measure => simp [offRoot, hne']

theorem next_blk {p mbp : Nat} {ppar : Option Addr} {ndp mdp : Int} {frp bup : Value} (h : TabAt w b (some ⟨p, 0, none⟩) true mb nd md fr bu) (hp : TabAt w p ppar false mbp ndp mdp frp bup) (h0 : 0 ≤ nd) (h1 : 0 ≤ ndp) (h2 : ndp + nd ≤ 1000000000) :
    Calls Efeg.prog 35 #[.pointer (some ⟨b, 0, none⟩)] w fun e w' => e = .returned (.int .i64 (ndp + nd)) ∧ ∃ m, w' = w.drewN m :=
  next_up h (fun m => (next_nb (hp.kept (S := []) (Same.drewN w m).kept (by simp))).mono (by rintro e w' ⟨rfl, rfl⟩; exact ⟨rfl, _, rfl⟩)) h1 h0 h2

theorem define_gb1 {r mbr : Nat} {ndr mdr : Int} {frr bur : Value} (h : TabAt w b (some ⟨r, 0, none⟩) true mb nd md fr bu) (hr : TabAt w r none false mbr ndr mdr frr bur)
    (hm : MapAt w mb n f) (hs : s.size ≤ maxLen) (hn : n < maxLen) (hne : b ≠ mb) (hbr : b ≠ r) (hmr : mb ≠ r) (h0 : 0 ≤ nd) (h4 : 0 ≤ ndr) (h5 : ndr + nd ≤ 1000000000) :
    Calls Efeg.prog 22 #[.pointer (some ⟨b, 0, none⟩), .string s] w fun e w' => ∃ sb, e = .returned (.pointer (some ⟨sb, 0, none⟩)) ∧ w.heap.size ≤ sb ∧
      SymAt w' sb s ⟨#[71, 76, 79, 66, 65, 76]⟩ (ndr + nd) false ∧ TabAt w' b (some ⟨r, 0, none⟩) true mb nd (max md (ndr + nd + 1)) fr bu ∧ TabAt w' r none false mbr (ndr + 1) (max mdr (ndr + nd + 1)) frr bur ∧
      MapAt w' mb (n + 1) (upd f s sb) ∧ Kept [b, mb, r] w w' := by
  refine (define_gblock (idx := ndr + nd) (R := fun w1 w' => ∃ w2, Kept [b] w1 w2 ∧ TabAt w2 b (some ⟨r, 0, none⟩) true mb nd (max md (ndr + nd + 1)) fr bu ∧ TabAt w' r none false mbr (ndr + 1) (max mdr (ndr + nd + 1)) frr bur ∧ Kept [r] w2 w')
    h hr (.inl rfl) hm hs hn hne hbr hbr hmr h0 (by omega) (by omega) (by omega) h4 (by omega)
    ((next_up h (fun m => (next_nb (hr.kept (S := []) (Same.drewN w m).kept (by simp))).mono ?_) h4 h0 h5).mono ?_) (fun w1 k t => parent_up t (parent_nb (hr.kept k (by simpa using hbr.symm))))
    (fun w1 k t tr => umd_up (R := fun w2 w' => TabAt w' r none false mbr (ndr + 1) (max mdr (ndr + nd + 1)) frr bur ∧ Kept [r] w2 w') t (fun w2 k2 t2 => umd_nb (tr.kept k2 (by simpa using hbr.symm)) _))).mono ?_
  · rintro e w' ⟨rfl, rfl⟩
    exact ⟨rfl, _, rfl⟩
  · rintro e w' ⟨rfl, m, rfl⟩
    exact ⟨rfl, Same.drewN _ _⟩
  · rintro e w' ⟨sb, w1, rfl, hsb, hsy, _, _, hmp', hk, w2, hk2, ht2, htr, hk3⟩
    have := h.lt
    have := hr.lt
    exact ⟨sb, rfl, hsb, (hsy.kept hk2 (by simp; omega)).kept hk3 (by simp; omega), ht2.kept hk3 (by simpa using hbr), htr, (hmp'.kept hk2 (by simpa using hne.symm)).kept hk3 (by simpa using hmr),
      hk.trans ((hk2.mono (by simp)).trans (hk3.mono (by simp)))⟩

theorem define_gb2 {p mbp r mbr : Nat} {ndp mdp ndr mdr : Int} {frp bup frr bur : Value} (h : TabAt w b (some ⟨p, 0, none⟩) true mb nd md fr bu) (hp : TabAt w p (some ⟨r, 0, none⟩) true mbp ndp mdp frp bup) (hr : TabAt w r none false mbr ndr mdr frr bur)
    (hm : MapAt w mb n f) (hs : s.size ≤ maxLen) (hn : n < maxLen) (hne : b ≠ mb) (hbr : b ≠ r) (hmr : mb ≠ r) (hbp : b ≠ p) (hmp : mb ≠ p) (hpr : p ≠ r) (h0 : 0 ≤ nd) (h3 : 0 ≤ ndp) (h4 : 0 ≤ ndr) (h5 : ndr + ndp + nd ≤ 1000000000) :
    Calls Efeg.prog 22 #[.pointer (some ⟨b, 0, none⟩), .string s] w fun e w' => ∃ sb, e = .returned (.pointer (some ⟨sb, 0, none⟩)) ∧ w.heap.size ≤ sb ∧
      SymAt w' sb s ⟨#[71, 76, 79, 66, 65, 76]⟩ (ndr + ndp + nd) false ∧ TabAt w' b (some ⟨p, 0, none⟩) true mb nd (max md (ndr + ndp + nd + 1)) fr bu ∧ TabAt w' p (some ⟨r, 0, none⟩) true mbp ndp (max mdp (ndr + ndp + nd + 1)) frp bup ∧
      TabAt w' r none false mbr (ndr + 1) (max mdr (ndr + ndp + nd + 1)) frr bur ∧ MapAt w' mb (n + 1) (upd f s sb) ∧ Kept [b, mb, r, p] w w' := by
  have np : ∀ m, Calls Efeg.prog 35 #[.pointer (some ⟨p, 0, none⟩)] (w.drewN m) fun e w' => e = .returned (.int .i64 (ndr + ndp)) ∧ ∃ k, w' = w.drewN k := fun m =>
    (next_blk (hp.kept (S := []) (Same.drewN w m).kept (by simp)) (hr.kept (S := []) (Same.drewN w m).kept (by simp)) h3 h4 (by omega)).mono (by rintro e w' ⟨rfl, k, rfl⟩; exact ⟨rfl, _, World.drewN_drewN _ _ _⟩)
  refine (define_gblock (idx := ndr + ndp + nd) (R := fun w1 w' => ∃ w2 w3, Kept [b] w1 w2 ∧ TabAt w2 b (some ⟨p, 0, none⟩) true mb nd (max md (ndr + ndp + nd + 1)) fr bu ∧ Kept [p] w2 w3 ∧
      TabAt w3 p (some ⟨r, 0, none⟩) true mbp ndp (max mdp (ndr + ndp + nd + 1)) frp bup ∧ TabAt w' r none false mbr (ndr + 1) (max mdr (ndr + ndp + nd + 1)) frr bur ∧ Kept [r] w3 w')
    h hr (.inr ⟨_, _, _, _, _, _, hp⟩) hm hs hn hne hbr hbp hmr h0 (by omega) (by omega) (by omega) h4 (by omega)
    ((next_up h np (by omega) h0 h5).mono ?_) (fun w1 k t => parent_up t (parent_up (hp.kept k (by simpa using hbp.symm)) (parent_nb (hr.kept k (by simpa using hbr.symm)))))
    (fun w1 k t tr => (umd_up (R := fun w2 w' => ∃ w3, Kept [p] w2 w3 ∧ TabAt w3 p (some ⟨r, 0, none⟩) true mbp ndp (max mdp (ndr + ndp + nd + 1)) frp bup ∧ TabAt w' r none false mbr (ndr + 1) (max mdr (ndr + ndp + nd + 1)) frr bur ∧ Kept [r] w3 w') t
      (fun w2 k2 t2 => umd_up (R := fun w3 w' => TabAt w' r none false mbr (ndr + 1) (max mdr (ndr + ndp + nd + 1)) frr bur ∧ Kept [r] w3 w') ((hp.kept k (by simp; omega)).kept k2 (by simpa using hbp.symm))
        (fun w3 k3 t3 => umd_nb ((tr.kept k2 (by simpa using hbr.symm)).kept k3 (by simpa using hpr.symm)) _))).mono ?_)).mono ?_
  · rintro e w' ⟨rfl, m, rfl⟩
    exact ⟨rfl, Same.drewN _ _⟩
  · rintro e w' ⟨rfl, w2, a1, a2, w3, a3⟩
    exact ⟨rfl, w2, w3, a1, a2, a3⟩
  · rintro e w' ⟨sb, w1, rfl, hsb, hsy, _, _, hmp', hk, w2, w3, hk2, ht2, hk3, ht3, htr, hk4⟩
    have := h.lt
    have := hr.lt
    have := hp.lt
    exact ⟨sb, rfl, hsb, ((hsy.kept hk2 (by simp; omega)).kept hk3 (by simp; omega)).kept hk4 (by simp; omega), (ht2.kept hk3 (by simpa using hbp)).kept hk4 (by simpa using hbr), ht3.kept hk4 (by simpa using hpr), htr,
      ((hmp'.kept hk2 (by simpa using hne.symm)).kept hk3 (by simpa using hmp)).kept hk4 (by simpa using hmr),
      (hk.mono (by simp)).trans ((hk2.mono (by simp)).trans ((hk3.mono (by simp)).trans (hk4.mono (by simp))))⟩
end
end Go.Proofs.Yoefew
