import Derived.Test.YoefewT2
namespace Go.Proofs.Yoefew
open Go.RowKit Go.Maps

theorem calls_forget {P : Program} {f : FuncId} {args : Array Value} {R : Ending → World → Prop} {w : World} (F : World → Prop) (hF : F w) (h : ∀ w1, F w1 → Calls P f args w1 R) : Calls P f args w R := h w hF

theorem heap_setCell_same {w : World} {b : Nat} {c : Array Value} {t : TypeId} {fz : Nat × Nat} (h : w.heap[b]? = some (.cells c t fz)) (i : Nat) (v : Value) : (w.setCell ⟨b, i, none⟩ v).heap[b]? = some (.cells (c.setIfInBounds i v) t fz) := by
  simp [World.setCell, Array.getElem?_modify, h]

/-- 'm[k] = v' at the operation. -/
theorem wpList_store_sym (w : World) {ops : Array Oper} {rest : List Oper} {o : Oper} {a : Act} {Q : Exit → Act → World → Prop} (hg : o.guard = none) (m x v : Operand) (hop : o.op = Op.mapUpdate 54 m x v)
    (b n : Nat) (f : List UInt8 → Option Nat) (s : ByteArray) (sb : Nat) (hm : a.eval m = .map (some b)) (hx : a.eval x = .string s) (hv : a.eval v = .pointer (some ⟨sb, 0, none⟩))
    (hmap : MapAt w b n f) (hn : n < maxLen) (hs : s.size ≤ maxLen)
    (hK : ∀ w', MapAt w' b (n + 1) (upd f s sb) → w.mapTurned w' b → wpList Efeg.prog ops Q rest (a.put o.dst undef) w') : wpList Efeg.prog ops Q (o :: rest) a w := by
  refine wpList_plain hg fun K' hK' => ?_
  obtain ⟨w', hrun, r1, r2⟩ := hmap.store hn hs sb
  unfold Oper.wp
  simp [execOp, hop, hm, hx, hv, hrun, Result.andThen]
  exact hK' _ _ (hK w' r1 r2)

section
variable {w : World} {b mb n : Nat} {par : Option Addr} {fr bu : Value} {blk : Bool} {nd md : Int} {f : List UInt8 → Option Nat} {s : ByteArray}

theorem TabAt.frozen (h : TabAt w b par blk mb nd md fr bu) (i : Nat) : w.frozen? ⟨b, i, none⟩ = false := by
  unfold TabAt at h
  simp [World.frozen?, h]

theorem TabAt.set4 (h : TabAt w b par blk mb nd md fr bu) (k : Int) : TabAt (w.setCell ⟨b, 4, none⟩ (.int .i64 k)) b par blk mb nd k fr bu := heap_setCell_same h 4 _
theorem TabAt.set3 (h : TabAt w b par blk mb nd md fr bu) (k : Int) : TabAt (w.setCell ⟨b, 3, none⟩ (.int .i64 k)) b par blk mb k md fr bu := heap_setCell_same h 3 _

theorem umd_nb (h : TabAt w b par false mb nd md fr bu) (k : Int) :
    Calls Efeg.prog 36 #[.pointer (some ⟨b, 0, none⟩), .int .i64 k] w fun e w' => e = .returned (.tuple #[]) ∧ TabAt w' b par false mb nd (max md k) fr bu ∧ Kept [b] w w' := by
  have c1 : w.cell? ⟨b, 1, none⟩ = some (.bool false) := by unfold TabAt at h; simp [World.cell?, h]
  have c4 : w.cell? ⟨b, 4, none⟩ = some (.int .i64 md) := by unfold TabAt at h; simp [World.cell?, h]
  have f4 := h.frozen 4
  by_cases hk : md < k
  · have c1' : (w.setCell ⟨b, 4, none⟩ (.int .i64 k)).cell? ⟨b, 1, none⟩ = some (.bool false) := by have := h.set4 k; unfold TabAt at this; simp [World.cell?, this]
    go_enter Efeg.func36, Efeg.ntmps36
    go_wp2_with fail
    go_end0
    refine ⟨rfl, ?_, (Kept.refl _ _).setCell (by simp) _⟩
    have := h.set4 k
    rwa [show max md k = k by omega]
  · go_enter Efeg.func36, Efeg.ntmps36
    go_wp2_with fail
    go_end0
    refine ⟨rfl, ?_, Kept.refl _ _⟩
    rwa [show max md k = md by omega]

theorem umd_up {p : Addr} {k : Int} {R : World → World → Prop} (h : TabAt w b (some p) true mb nd md fr bu)
    (hc : ∀ w1, Kept [b] w w1 → TabAt w1 b (some p) true mb nd (max md k) fr bu → Calls Efeg.prog 36 #[.pointer (some p), .int .i64 k] w1 fun e w' => e = .returned (.tuple #[]) ∧ R w1 w') :
    Calls Efeg.prog 36 #[.pointer (some ⟨b, 0, none⟩), .int .i64 k] w fun e w' => e = .returned (.tuple #[]) ∧ ∃ w1, Kept [b] w w1 ∧ TabAt w1 b (some p) true mb nd (max md k) fr bu ∧ R w1 w' := by
  have c0 : w.cell? ⟨b, 0, none⟩ = some (.pointer (some p)) := by unfold TabAt at h; simp [World.cell?, h]
  have c1 : w.cell? ⟨b, 1, none⟩ = some (.bool true) := by unfold TabAt at h; simp [World.cell?, h]
  have c4 : w.cell? ⟨b, 4, none⟩ = some (.int .i64 md) := by unfold TabAt at h; simp [World.cell?, h]
  have f4 := h.frozen 4
  by_cases hk : md < k
  · have hK : Kept [b] w (w.setCell ⟨b, 4, none⟩ (.int .i64 k)) := (Kept.refl _ _).setCell (by simp) _
    have hT : TabAt (w.setCell ⟨b, 4, none⟩ (.int .i64 k)) b (some p) true mb nd (max md k) fr bu := by
      rw [show max md k = k by omega]
      exact h.set4 k
    have HC := hide (hc _ hK hT)
    have c1' : (w.setCell ⟨b, 4, none⟩ (.int .i64 k)).cell? ⟨b, 1, none⟩ = some (.bool true) := by have := h.set4 k; unfold TabAt at this; simp [World.cell?, this]
    have c0' : (w.setCell ⟨b, 4, none⟩ (.int .i64 k)).cell? ⟨b, 0, none⟩ = some (.pointer (some p)) := by have := h.set4 k; unfold TabAt at this; simp [World.cell?, this]
    clear hc
    go_enter Efeg.func36, Efeg.ntmps36
    go_wp2_with fail
    refine (unhide HC).mono ?_
    rintro e w' ⟨rfl, hR⟩
    go_wp2_with fail
    go_end0
    exact ⟨rfl, _, hK, hT, hR⟩
  · have hT : TabAt w b (some p) true mb nd (max md k) fr bu := by
      rw [show max md k = md by omega]
      exact h
    have HC := hide (hc _ (Kept.refl _ _) hT)
    clear hc
    go_enter Efeg.func36, Efeg.ntmps36
    go_wp2_with fail
    refine (unhide HC).mono ?_
    rintro e w' ⟨rfl, hR⟩
    go_wp2_with fail
    go_end0
    exact ⟨rfl, _, Kept.refl _ _, hT, hR⟩

/-- Nothing in memory has turned. -/
structure Same (w w' : World) : Prop where
  os : w'.os = w.os
  tape : w'.tape = w.tape
  output : w'.output = w.output
  heap : w'.heap = w.heap

theorem Same.refl (w : World) : Same w w := ⟨rfl, rfl, rfl, rfl⟩
theorem Same.kept {S : List Nat} {w w' : World} (h : Same w w') : Kept S w w' := ⟨h.os, h.tape, h.output, by rw [h.heap]; exact Nat.le_refl _, fun k _ _ => by rw [h.heap]⟩
theorem Same.drewN (w : World) (n : Nat) : Same w (w.drewN n) := ⟨rfl, rfl, rfl, rfl⟩

/-- The world behind 'symbol := &Symbol{..}; t.numDefinition++'. -/
theorem define_step1 (h : TabAt w b par blk mb nd md fr bu) (hm : MapAt w mb n f) (idx : Int) (hne : b ≠ mb) :
    TabAt ((w.setCell ⟨b, 3, none⟩ (.int .i64 (nd + 1))).alloc (.cells #[.string s, .string ⟨#[]⟩, .int .i64 idx, .bool false] 39)) b par blk mb (nd + 1) md fr bu ∧
    SymAt ((w.setCell ⟨b, 3, none⟩ (.int .i64 (nd + 1))).alloc (.cells #[.string s, .string ⟨#[]⟩, .int .i64 idx, .bool false] 39)) w.heap.size s ⟨#[]⟩ idx false ∧
    MapAt ((w.setCell ⟨b, 3, none⟩ (.int .i64 (nd + 1))).alloc (.cells #[.string s, .string ⟨#[]⟩, .int .i64 idx, .bool false] 39)) mb n f ∧
    Kept [b] w ((w.setCell ⟨b, 3, none⟩ (.int .i64 (nd + 1))).alloc (.cells #[.string s, .string ⟨#[]⟩, .int .i64 idx, .bool false] 39)) := by
  have hK : Kept [b] w (w.setCell ⟨b, 3, none⟩ (.int .i64 (nd + 1))) := (Kept.refl _ _).setCell (by simp) _
  have hA := (Kept.refl [] (w.setCell ⟨b, 3, none⟩ (.int .i64 (nd + 1)))).alloc (.cells #[.string s, .string ⟨#[]⟩, .int .i64 idx, .bool false] 39)
  refine ⟨(h.set3 (nd + 1)).kept hA (by simp), ?_, (hm.kept hK (by simpa using hne.symm)).kept hA (by simp), hK.alloc _⟩
  have := (MapKept.heap_alloc (w.setCell ⟨b, 3, none⟩ (.int .i64 (nd + 1))) (.cells #[.string s, .string ⟨#[]⟩, .int .i64 idx, .bool false] 39)).1
  unfold SymAt
  simpa using this

theorem SymAt.frozen {name sc : ByteArray} {idx : Int} {la : Bool} (h : SymAt w b name sc idx la) (i : Nat) : w.frozen? ⟨b, i, none⟩ = false := by
  unfold SymAt at h
  simp [World.frozen?, h]
theorem SymAt.set1 {name sc sc' : ByteArray} {idx : Int} {la : Bool} (h : SymAt w b name sc idx la) : SymAt (w.setCell ⟨b, 1, none⟩ (.string sc')) b name sc' idx la := heap_setCell_same h 1 _

theorem define_local {idx : Int} {q : Addr} {R : World → World → Prop} (h : TabAt w b par blk mb nd md fr bu) (hm : MapAt w mb n f) (hs : s.size ≤ maxLen) (hn : n < maxLen) (hne : b ≠ mb)
    (h0 : 0 ≤ nd) (h1 : nd ≤ 1000000000) (h2 : 0 ≤ idx) (h3 : idx ≤ 1000000000)
    (hnext : Calls Efeg.prog 35 #[.pointer (some ⟨b, 0, none⟩)] w fun e w' => e = .returned (.int .i64 idx) ∧ Same w w')
    (hpar : ∀ w1, Kept [b] w w1 → TabAt w1 b par blk mb (nd + 1) md fr bu → Calls Efeg.prog 14 #[.pointer (some ⟨b, 0, none⟩), .bool true] w1 fun e w' => e = .returned (.pointer (some q)) ∧ w1 = w')
    (humd : ∀ w1, Kept [b, mb] w w1 → TabAt w1 b par blk mb (nd + 1) md fr bu → Calls Efeg.prog 36 #[.pointer (some ⟨b, 0, none⟩), .int .i64 (idx + 1)] w1 fun e w' => e = .returned (.tuple #[]) ∧ R w1 w') :
    Calls Efeg.prog 22 #[.pointer (some ⟨b, 0, none⟩), .string s] w fun e w' => ∃ sb w1, e = .returned (.pointer (some ⟨sb, 0, none⟩)) ∧ w.heap.size ≤ sb ∧
      SymAt w1 sb s ⟨#[76, 79, 67, 65, 76]⟩ idx false ∧ TabAt w1 b par blk mb (nd + 1) md fr bu ∧ MapAt w1 mb (n + 1) (upd f s sb) ∧ Kept [b, mb] w w1 ∧ R w1 w' := by
  have HN := hide hnext
  have HP := hide hpar
  have HU := hide humd
  have HT := hide h
  have HM := hide hm
  clear hnext hpar humd h hm
  go_enter Efeg.func22, Efeg.ntmps22
  go_wp2_with fail
  refine (unhide HN).mono ?_
  rintro e w0 ⟨rfl, hsame⟩
  have h' : TabAt w0 b par blk mb nd md fr bu := (unhide HT).kept (S := []) hsame.kept (by simp)
  have hm' : MapAt w0 mb n f := (unhide HM).kept (S := []) hsame.kept (by simp)
  have c3 : w0.cell? ⟨b, 3, none⟩ = some (.int .i64 nd) := by unfold TabAt at h'; simp [World.cell?, h']
  have f3 := h'.frozen 3
  have hlt := h'.lt
  have HK1 : Hid (Kept [b] w w0) := hsame.kept
  have hsz : w.heap.size ≤ w0.heap.size := by rw [hsame.heap]; exact Nat.le_refl _
  clear hsame
  go_wp2_with fail
  refine calls_forget (fun w1 => TabAt w1 b par blk mb (nd + 1) md fr bu ∧ SymAt w1 w0.heap.size s ⟨#[]⟩ idx false ∧ MapAt w1 mb n f ∧ Kept [b] w0 w1) (define_step1 h' hm' idx hne) ?_
  rintro w1 ⟨t1, s1, m1, k1⟩
  have k1' : Kept [b] w w1 := ((unhide HK1)).trans k1
  clear h' hm' c3 f3 hlt k1
  generalize w0.heap.size = sb at *
  refine (unhide HP w1 k1' t1).mono ?_
  rintro e w2 ⟨rfl, rfl⟩
  have g1 : w1.cell? ⟨sb, 1, none⟩ = some (.string ⟨#[]⟩) := by unfold SymAt at s1; simp [World.cell?, s1]
  have gf := s1.frozen 1
  have c2 : w1.cell? ⟨b, 2, none⟩ = some (.map (some mb)) := by unfold TabAt at t1; simp [World.cell?, t1]
  have hK2 : Kept [b, mb] w (w1.setCell ⟨sb, 1, none⟩ (.string ⟨#[76, 79, 67, 65, 76]⟩)) := (k1'.mono (by simp)).setCell (by simp; omega) _
  have hk2 : Kept [sb] w1 (w1.setCell ⟨sb, 1, none⟩ (.string ⟨#[76, 79, 67, 65, 76]⟩)) := (Kept.refl _ _).setCell (by simp) _
  have hbs : b ≠ sb := by intro e; subst e; unfold SymAt at s1; unfold TabAt at t1; rw [s1] at t1; cases t1
  have hms : mb ≠ sb := by intro e; subst e; obtain ⟨D, ⟨es, cl, hh, _⟩, _⟩ := m1; unfold SymAt at s1; rw [s1] at hh; cases hh
  have s2 := s1.set1 (sc' := ⟨#[76, 79, 67, 65, 76]⟩)
  have t2 := t1.kept hk2 (by simpa using hbs)
  have m2 := m1.kept hk2 (by simpa using hms)
  clear s1 t1 m1 k1' hk2
  go_wp2_with (at_mapUpdate; refine wpList_store_sym _ rfl _ _ _ rfl mb n f s sb rfl rfl rfl m2 hn hs ?_)
  intro w3 m3 ht3
  have hK3 := hK2.turned ht3 (by simp)
  have k3 : Kept [mb] _ w3 := (Kept.refl _ _).turned ht3 (by simp)
  have s3 := s2.kept k3 (by simpa using hms.symm)
  have t3 := t2.kept k3 (by simpa using hne)
  have g2 : w3.cell? ⟨sb, 2, none⟩ = some (.int .i64 idx) := by unfold SymAt at s3; simp [World.cell?, s3]
  clear s2 t2 m2 k3 ht3 hK2 g1 gf c2
  go_wp2_with fail
  refine (unhide HU w3 hK3 t3).mono ?_
  rintro e w4 ⟨rfl, hR⟩
  go_wp2_with fail
  go_ret
  exact ⟨sb, w3, rfl, hsz, s3, t3, m3, hK3, hR⟩
end
end Go.Proofs.Yoefew
