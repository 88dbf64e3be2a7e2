import Derived.Test.YoefewL9
import Derived.Test.YoefewBytes
import Derived.Test.YoefewEq
import Derived.Deep.QuietTactic
import Derived.Deep.RegionWith
import Derived.BigQuiet
namespace Go.Proofs.Yoefew
open Go.RowKit Go.Maps

theorem bytes31 {w : World} {a : Option Addr} {n cap : Nat} (x y : ByteArray) (i : Int) (l0 : n ≤ maxLen) (lx : x.size ≤ maxLen) (ly : y.size ≤ maxLen) :
    Calls Efeg.prog 31 #[.slice a n cap, .string x, .string y, .int .i64 i] w fun e w' => Said (n + x.size + y.size ≤ 1048576) e ∧ w = w' := by
  unfold maxLen at l0 lx ly
  go_enter Efeg.func31, Efeg.ntmps31
  go_wp2
  all_goals first
    | (go_ret; exact ⟨Said.no, rfl⟩)
    | (go_ret; exact ⟨Said.yes (by omega), rfl⟩)

/-- The chain while it is made. -/
def C9 (w : World) (r mr tb B n : Nat) (ts : List Nat) (wr : World) : Prop :=
  TabAt wr r none false mr 0 0 (.slice none 0 0) (.slice none 0 0) ∧ MapAt wr mr 0 (fun _ => none) ∧ Tabs wr B ts ∧ TPtrsAt wr tb n ts ∧ ts[0]? = some r ∧ Below w.heap.size w wr ∧ B ≤ wr.heap.size ∧
    r ≠ mr ∧ w.heap.size ≤ r ∧ w.heap.size ≤ mr ∧ w.heap.size ≤ tb ∧ r < B ∧ mr < B ∧ tb < B ∧ tb ≠ r ∧ tb ≠ mr ∧ w.heap.size ≤ B

section
variable {w wr : World} {r mr tb B n : Nat} {ts : List Nat}
theorem C9.ptrs (h : C9 w r mr tb B n ts wr) : TPtrsAt wr tb n ts := by
  obtain ⟨_, _, _, h, _⟩ := h
  exact h
theorem C9.below (h : C9 w r mr tb B n ts wr) : Below w.heap.size w wr := by
  obtain ⟨_, _, _, _, _, h, _⟩ := h
  exact h
theorem C9.drew (h : C9 w r mr tb B n ts wr) : C9 w r mr tb B n ts wr.drew := by
  obtain ⟨h1, h2, h3, h4, h5, h6, h7, h8⟩ := h
  exact ⟨h1, h2, h3, h4, h5, h6.drew, h7, h8⟩
theorem C9.step {w3 : World} {p g mg : Nat} {blk : Bool} (h : C9 w r mr tb B n ts wr) (hp : ts[ts.length - 1]? = some p) (hn : NewTab wr w3 g mg (some ⟨p, 0, none⟩) blk) (hl : ts.length < n) :
    C9 w r mr tb B n (ts ++ [g]) (w3.setCell ⟨tb, ts.length, none⟩ (.pointer (some ⟨g, 0, none⟩))) := by
  obtain ⟨h1, h2, h3, h4, h5, h6, h7, h8, h9, h10, h11, h12, h13, h14, h15, h16, h17⟩ := h
  obtain ⟨n1, n2, n3, n4, n5, n6⟩ := hn
  have k' : Kept [tb] w3 (w3.setCell ⟨tb, ts.length, none⟩ (.pointer (some ⟨g, 0, none⟩))) := (Kept.refl _ _).setCell (by simp) _
  have b3 := h6.trans (n6.below h6.size (by simp))
  refine ⟨(h1.kept n6 (by simp)).kept k' (by simpa using h15.symm), (h2.kept n6 (by simp)).kept k' (by simpa using h16.symm), ?_, (h4.kept n6 (by simp)).store hl g, ?_, b3.trans (k'.below b3.size (by simpa using h11)), ?_, h8, h9, h10, h11, h12, h13, h14, h15, h16, h17⟩
  · exact ((h3.kept n6 (by simp)).kept k' (by simp; exact .inl h14)).snoc hp (n4.kept k' (by simp; omega)) (n5.kept k' (by simp; omega)) (by omega) (by omega)
  · rw [List.getElem?_append_left (by have := (List.getElem?_eq_some_iff.1 h5).1; omega)]
    exact h5
  · have := n6.size
    simp
    omega
end

set_option maxRecDepth 100000 in
set_option maxHeartbeats 4000000 in
theorem walk9 {w : World} {a : Option Addr} {qs : List Bool} {cap : Nat} (h : BoolsAt w a qs) (l0 : qs.length ≤ maxLen) (x y : ByteArray) (lx : x.size ≤ maxLen) (ly : y.size ≤ maxLen) (bi : Int) :
    Calls Efeg.prog 9 #[.slice a qs.length cap, .string x, .string y, .int .i64 bi] w fun e w' => e = .returned (.bool true) ∧ Below w.heap.size w w' := by
  have HB := hide (bytes31 (w := w) (a := a) (cap := cap) x y bi l0 lx ly)
  have HX := hide lx
  have HY := hide ly
  unfold maxLen at l0 lx ly
  go_enter Efeg.func9, Efeg.ntmps9
  go_wp2_with fail
  refine (unhide HB).mono ?_
  rintro e w' ⟨⟨r, rfl, hr⟩, rfl⟩
  clear HB
  cases r with
  | false =>
    clear hr
    go_wp2_with fail
    go_ret
    exact ⟨rfl, Below.refl _ _⟩
  | true =>
    have hr := hr rfl
    by_cases h16 : (qs.length : Int) ≤ 4096
    case neg =>
      go_wp2_with fail
      go_ret
      exact ⟨rfl, Below.refl _ _⟩
    have hsum : (qs.length : Int) + x.size + y.size ≤ 1048576 := by omega
    have hmk := fun wx => run_make_row' (P := Efeg.prog) 51 23 (.pointer none) 8 Efeg.underlying51 info23 rfl .i64 .i64 (qs.length + 1) (by omega) (by omega) wx
    rw [show ((qs.length + 1 : Nat) : Int) = (qs.length : Int) + 1 by omega] at hmk
    go_wp2_with fail
    clear hmk
    have kA : Kept [] w (w.alloc (.cells (madeCells #[.pointer none] (qs.length + 1)) 23)) := (Kept.refl _ _).alloc _
    refine calls_forget (fun w0 => TPtrsAt w0 w.heap.size (qs.length + 1) [] ∧ Kept [] w w0) ⟨TPtrsAt.made _ _, kA⟩ ?_
    clear kA
    rintro w0 ⟨p0, k0⟩
    have lt0 := p0.lt
    generalize htb : w.heap.size = tb at *
    have HTB := hide htb
    clear htb
    refine (new_calls _).mono ?_
    rintro e w1 ⟨r, mr, rfl, hb1, hmb1, hne1, t1, m1, k1⟩
    have p1 := p0.kept k1 (by simp)
    obtain ⟨v, ov⟩ := p1.old (i := 0) (by omega)
    have fv := p1.frozen 0
    go_wp2_with fail
    have kS : Kept [tb] w1 (w1.setCell ⟨tb, 0, none⟩ (.pointer (some ⟨r, 0, none⟩))) := (Kept.refl _ _).setCell (by simp) _
    have htw := unhide HTB
    have hz0 := k0.size
    have hz1 := k1.size
    have lr := t1.lt
    have lm := m1.lt
    have k01 := (k0.mono (T := [tb]) (by simp)).trans ((k1.mono (by simp)).trans kS)
    have hC : C9 w r mr tb w1.heap.size (qs.length + 1) [r] (w1.setCell ⟨tb, 0, none⟩ (.pointer (some ⟨r, 0, none⟩))) :=
      ⟨t1.kept kS (by simp; omega), m1.kept kS (by simp; omega), Tabs.one _ _ _, p1.store (gs := []) (by simp) r, rfl, k01.below (Nat.le_refl _) (by simp; omega), by simp, hne1, by omega, by omega, by omega, lr, lm, by omega, by omega, by omega, by omega⟩
    clear kS k01 t1 m1 p1 p0 k0 k1 ov fv htw lr lm hz0 hz1
    generalize w1.heap.size = B at *
    go_loopw [11] (fun i wr => ∃ (k : Nat) (ts : List Nat), k ≤ qs.length ∧ ts.length = k + 1 ∧ i = .int .i64 k ∧ C9 w r mr tb B (qs.length + 1) ts wr) (fun i _ => qs.length - (intOf i).toNat)
    case atStart => exact ⟨0, [r], Nat.zero_le _, rfl, rfl, hC⟩
    case round =>
      clear hC
      obtain ⟨k, ts, hk, hts, rfl, hC⟩ := hrel
      by_cases hlt : k < qs.length
      · obtain ⟨b, off, q, rfl, _, hrow⟩ := h.row hlt
        obtain ⟨p, hp⟩ : ∃ p, ts[k]? = some p := ⟨ts[k], by simp⟩
        have hc := hrow _ hC.below
        have hcp := hC.ptrs.cell hp
        have hlt' : (k : Int) < (qs.length : Int) := by omega
        have HP := hide hp
        have HTS := hide hts
        clear hrow hp hts
        go_wp2_with fail
        go_region_with (go_at_call 26; refine (fork_calls _ _ _).mono ?_; rintro e w3 ⟨g, mg, rfl, hN⟩; have p3 := hC.drew.ptrs.kept hN.2.2.2.2.2 (by simp); obtain ⟨v, ov⟩ := p3.old (i := k + 1) (by omega); have fv := p3.frozen (k + 1))
        all_goals
          have hst := hC.drew.step (p := p) (by rw [unhide HTS]; simpa using unhide HP) hN (by have := unhide HTS; omega)
          rw [unhide HTS] at hst
          clear hC p3 ov fv hN hc hcp
          go_wp2_with fail
          go_roundw
          case rel => exact ⟨k + 1, ts ++ [g], by omega, by have := unhide HTS; simp; omega, by go_num, hst⟩
          case measure => simp [intOf]; omega
      · have hkk : k = qs.length := by omega
        subst hkk
        clear hk hlt
        have hneq := neq_same
        obtain ⟨lf, hlf⟩ : ∃ lf, ts[qs.length]? = some lf := ⟨ts[qs.length], by simp⟩
        have hc0 := hC.ptrs.cell hC.2.2.2.2.1
        have hcn := hC.ptrs.cell hlf
        obtain ⟨t4, m4, tb4, p4, r0, hbel, hB, n1, n2, n3, n4, n5, n6, n7, n8, n9, n10⟩ := hC
        have HDB := hide (db_chain (R := fun v w5 => ∃ sb bu', v = .pointer (some ⟨sb, 0, none⟩) ∧ SymAt w5 sb y ⟨#[66, 85, 73, 76, 84, 73, 78]⟩ bi false ∧ TabAt w5 r none false mr 0 0 (.slice none 0 0) bu' ∧ MapAt w5 mr 1 (upd (fun _ => none) y sb) ∧ OwnsPtrs w5 w.heap.size bu' [sb] ∧ Kept [r, mr] wr w5) tb4 r0
          ((db_root (B := w.heap.size) (gs := []) (idx := bi) t4 m4 (OwnsPtrs.nil _ _) (unhide HY) (by decide +kernel) (by simp) hbel.size n1).mono (by
            rintro e w5 ⟨sb, bu', rfl, _, q1, q2, q3, q4, q5⟩
            exact ⟨_, rfl, sb, bu', rfl, q1, q2, q3, q4, q5⟩)) qs.length lf hlf)
        clear t4 m4
        have hqq : (qs.length : Int) < (qs.length : Int) + 1 := by omega
        go_wp2_with fail
        refine (unhide HDB).mono ?_
        rintro e w5 ⟨_, rfl, sb, bu', rfl, s5, t5, m5, o5, k5⟩
        clear HDB hc0 hcn
        have tb5 := tb4.kept k5 (by simp; exact ⟨.inl n5, .inl n6⟩)
        have p5 := p4.kept k5 (by simp; exact ⟨n8, n9⟩)
        have b5 := hbel.trans (k5.below hbel.size (by simp; exact ⟨n2, n3⟩))
        clear tb4 p4 k5
        go_wp2_with fail
        refine (define_root t5 m5 (unhide HX) (by decide +kernel) n1 (Int.le_refl 0) (by decide)).mono ?_
        rintro e w6 ⟨gb, rfl, hge, s6, t6, m6, k6⟩
        have s56 := s5.kept k6 (by simp; exact ⟨s5.ne_tab t5, s5.ne_map m5⟩)
        have o6 := o5.kept k6 (fun z hz => by
          obtain ⟨_, cur, hcur⟩ := o5.block hz
          simp
          refine ⟨?_, ?_⟩
          · rintro rfl; unfold TabAt at t5; rw [t5] at hcur; simp at hcur
          · rintro rfl; obtain ⟨D, ⟨es, cl, hh, _⟩, _⟩ := m5; rw [hh] at hcur; cases hcur)
        have tb6 := tb5.kept k6 (by simp; exact ⟨.inl n5, .inl n6⟩)
        have p6 := p5.kept k6 (by simp; exact ⟨n8, n9⟩)
        have b6 := b5.trans (k6.below b5.size (by simp; exact ⟨n2, n3⟩))
        have hgx : upd (upd (fun _ => none) y sb) x gb x.data.toList = some gb := by simp [upd]
        have HR1 := hide (resolve_chain tb6 r0 (unhide HX) s6 (.inl (by decide +kernel)) (by omega) (fun rc => resolve_hit t6 m6 (unhide HX) hgx s6 rc (.inl (by decide +kernel))) qs.length lf false hlf)
        rcases o6.form with ⟨_, hnil⟩ | ⟨rb, capb, cur, rfl, _, _⟩
        · simp at hnil
        have hbc := o6.cell (j := 0) (x := sb) (by simp)
        simp only [List.length_singleton] at t6
        have HBC := hide (builtin_chain tb6 r0 (builtin_root t6) qs.length lf hlf)
        have c0 := s56.c0
        have c1 := s56.c1
        have c2 := s56.c2
        have d0 := s6.c0
        have d1 := s6.c1
        have d2 := s6.c2
        have HFR : Hid (∀ (i b : Nat), ts[i]? = some b → Calls Efeg.prog 16 #[.pointer (some ⟨b, 0, none⟩)] w6 fun e w' => e = .returned (.slice none 0 0) ∧ w6 = w') := by
          intro i b hb
          cases i with
          | zero => rw [r0] at hb; cases hb; exact free_calls t6
          | succ i =>
            obtain ⟨p, hp⟩ : ∃ p, ts[i]? = some p := ⟨ts[i]'(by have := (List.getElem?_eq_some_iff.1 hb).1; omega), by simp⟩
            obtain ⟨_, _, tt, _⟩ := tb6 i b p hb hp
            exact free_calls tt
        have HP6 := hide p6
        have HTS := hide hts
        by_cases hxy : y = x
        · subst hxy
          have HR2 := HR1
          clear t5 m5 s5 o5 k6 t6 s6 s56 o6 tb5 tb6 p5 p6 b5 hgx hts m6 hbel
          go_wp2_with fail
          refine (unhide HR1).mono ?_
          rintro e w7 ⟨rfl, rfl⟩
          go_wp2_with fail
          refine (unhide HR2).mono ?_
          rintro e w7 ⟨rfl, rfl⟩
          go_wp2_with fail
          go_loop [20] (fun i => ∃ k : Nat, k ≤ qs.length + 1 ∧ i = .int .i64 k) (fun i => qs.length + 1 - (intOf i).toNat)
          case atStart => exact ⟨0, Nat.zero_le _, rfl⟩
          case round =>
            obtain ⟨k, hk, rfl⟩ := hrel
            by_cases hlt : k ≤ qs.length
            · obtain ⟨b, hb⟩ : ∃ b, ts[k]? = some b := ⟨ts[k]'(by have := unhide HTS; omega), by simp⟩
              have hcb := (unhide HP6).cell hb
              have HF := hide (unhide HFR k b hb)
              have hlt' : (k : Int) ≤ (qs.length : Int) := by omega
              clear hb
              go_wp2_with fail
              refine (unhide HF).mono ?_
              rintro e w7 ⟨rfl, rfl⟩
              go_wp2_with fail
              go_round
              case rel => exact ⟨k + 1, by omega, by go_num⟩
              case measure => simp [intOf]; omega
            · have hlt' : (qs.length : Int) < (k : Int) := by omega
              go_wp2_with fail
              refine (unhide HBC).mono ?_
              rintro e w7 ⟨rfl, rfl⟩
              go_wp2_with fail
              go_ret
              exact ⟨rfl, b6⟩
        · have hyx := toList_beq hxy
          have hgy : upd (upd (fun _ => none) y sb) x gb y.data.toList = some sb := by unfold upd; rw [if_neg (data_ne hxy), if_pos rfl]
          have HR2 := hide (resolve_chain tb6 r0 (unhide HY) s56 (.inr (by decide +kernel)) (by omega) (fun rc => resolve_hit t6 m6 (unhide HY) hgy s56 rc (.inl (by decide +kernel))) qs.length lf false hlf)
          clear t5 m5 s5 o5 k6 t6 s6 s56 o6 tb5 tb6 p5 p6 b5 hgx hgy hts m6 hbel
          go_wp2_with fail
          refine (unhide HR1).mono ?_
          rintro e w7 ⟨rfl, rfl⟩
          go_wp2_with fail
          refine (unhide HR2).mono ?_
          rintro e w7 ⟨rfl, rfl⟩
          go_wp2_with fail
          go_loop [20] (fun i => ∃ k : Nat, k ≤ qs.length + 1 ∧ i = .int .i64 k) (fun i => qs.length + 1 - (intOf i).toNat)
          case atStart => exact ⟨0, Nat.zero_le _, rfl⟩
          case round =>
            obtain ⟨k, hk, rfl⟩ := hrel
            by_cases hlt : k ≤ qs.length
            · obtain ⟨b, hb⟩ : ∃ b, ts[k]? = some b := ⟨ts[k]'(by have := unhide HTS; omega), by simp⟩
              have hcb := (unhide HP6).cell hb
              have HF := hide (unhide HFR k b hb)
              have hlt' : (k : Int) ≤ (qs.length : Int) := by omega
              clear hb
              go_wp2_with fail
              refine (unhide HF).mono ?_
              rintro e w7 ⟨rfl, rfl⟩
              go_wp2_with fail
              go_round
              case rel => exact ⟨k + 1, by omega, by go_num⟩
              case measure => simp [intOf]; omega
            · have hlt' : (qs.length : Int) < (k : Int) := by omega
              go_wp2_with fail
              refine (unhide HBC).mono ?_
              rintro e w7 ⟨rfl, rfl⟩
              go_wp2_with fail
              go_ret
              exact ⟨rfl, b6⟩
end Go.Proofs.Yoefew
