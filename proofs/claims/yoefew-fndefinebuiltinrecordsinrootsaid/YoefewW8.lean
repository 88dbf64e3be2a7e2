import Derived.Test.YoefewL8
import Derived.Test.YoefewBytes
import Derived.Test.YoefewEq
import Derived.Deep.QuietTactic
import Derived.Deep.RegionWith
import Derived.BigQuiet
namespace Go.Proofs.Yoefew
open Go.RowKit Go.Maps

theorem Same.trans {a b c : World} (h : Same a b) (k : Same b c) : Same a c := ⟨k.os.trans h.os, k.tape.trans h.tape, k.output.trans h.output, k.heap.trans h.heap⟩

theorem bytes29 {w : World} {a : Option Addr} {ds : List (Int × ByteArray × Int)} {cap : Nat} (h : DefsAt w a ds) (l0 : ds.length ≤ maxLen) :
    Calls Efeg.prog 29 #[.slice a ds.length cap] w fun e w' => Said (ds.length + totD ds ≤ 1048576) e ∧ w = w' := by
  unfold maxLen at l0
  by_cases hl : (ds.length : Int) ≤ 1048576
  case neg =>
    go_enter Efeg.func29, Efeg.ntmps29
    go_wp2
    go_ret
    exact ⟨Said.no, rfl⟩
  go_enter Efeg.func29, Efeg.ntmps29
  go_wp2
  go_loop [3, 4] (fun t i => ∃ k : Nat, k ≤ ds.length ∧ i = .int .i64 k ∧ t = .int .i64 ((ds.length + totD (ds.take k) : Nat) : Int) ∧ ds.length + totD (ds.take k) ≤ 1048576) (fun _ i => ds.length - (intOf i).toNat)
  case atStart => exact ⟨0, Nat.zero_le _, rfl, by simp [totD_nil], by simp [totD_nil]; omega⟩
  case round =>
    obtain ⟨k, hk, rfl, rfl, hb⟩ := hrel
    by_cases hlt : k < ds.length
    · obtain ⟨b, off, i, s, wh, rfl, hs, hsz, _, _, hrow⟩ := h.row hlt
      obtain ⟨c1, c2, c3⟩ := hrow w (Below.refl _ _)
      have HT := hide (totD_take hs)
      unfold maxLen at hsz
      clear hs hrow
      generalize totD (ds.take k) = tk at *
      go_wp2
      · go_ret
        exact ⟨Said.no, rfl⟩
      · go_ret
        exact ⟨Said.no, rfl⟩
      · go_round
        case rel => exact ⟨k + 1, by omega, by go_num, by rw [unhide HT]; go_num, by rw [unhide HT]; omega⟩
        case measure => simp [intOf]; omega
    · have hkk : k = ds.length := by omega
      subst hkk
      rw [List.take_length] at hb ⊢
      go_wp2
      go_ret
      exact ⟨Said.yes (by omega), rfl⟩

set_option maxRecDepth 100000 in
set_option maxHeartbeats 4000000 in
theorem walk8 {w : World} {a : Option Addr} {ds : List (Int × ByteArray × Int)} {cap : Nat} (h : DefsAt w a ds) (l0 : ds.length ≤ maxLen) :
    Calls Efeg.prog 8 #[.slice a ds.length cap] w fun e w' => e = .returned (.bool true) ∧ Below w.heap.size w w' := by
  have HB := hide (bytes29 (cap := cap) h l0)
  unfold maxLen at l0
  go_enter Efeg.func8, Efeg.ntmps8
  go_wp2_with fail
  refine (unhide HB).mono ?_
  rintro e w' ⟨⟨r, rfl, hr⟩, rfl⟩
  clear HB
  cases r with
  | false =>
    clear hr
    go_wp2_with fail
    go_ret
    exact ⟨rfl, Below.refl _ _⟩
  | true =>
    have hr := hr rfl
    by_cases h16 : (ds.length : Int) ≤ 65536
    case neg =>
      go_wp2_with fail
      go_ret
      exact ⟨rfl, Below.refl _ _⟩
    go_wp2_with fail
    go_loop [3, 4] (fun t i => ∃ k : Nat, k ≤ ds.length ∧ i = .int .i64 k ∧ t = .int .i64 ((24 * k + totD (ds.take k) : Nat) : Int)) (fun _ i => ds.length - (intOf i).toNat)
    case atStart => exact ⟨0, Nat.zero_le _, rfl, rfl⟩
    case round =>
      obtain ⟨k, hk, rfl, rfl⟩ := hrel
      by_cases hlt : k < ds.length
      · obtain ⟨b, off, i, s, wh, rfl, hs, hsz, _, _, hrow⟩ := h.row hlt
        obtain ⟨c1, c2, c3⟩ := hrow w (Below.refl _ _)
        have htk := totD_take_le ds k
        have HT := hide (totD_take hs)
        have htk1 := totD_take_le ds (k + 1)
        rw [totD_take hs] at htk1
        clear hs hrow
        generalize totD (ds.take k) = tk at *
        go_wp2_with fail
        go_round
        case rel => exact ⟨k + 1, by omega, by go_num, by rw [unhide HT]; go_num⟩
        case measure => simp [intOf]; omega
      · have hkk : k = ds.length := by omega
        subst hkk
        rw [List.take_length]
        clear hk hlt
        by_cases hsum : ((24 * ds.length + totD ds : Nat) : Int) ≤ 1048576
        case neg =>
          go_wp2_with fail
          go_ret
          exact ⟨rfl, Below.refl _ _⟩
        go_wp2_with fail
        refine (new_calls _).mono ?_
        rintro e w1 ⟨r, mr, rfl, hb1, hmb1, hne1, t1, m1, k1⟩
        go_wp2_with fail
        refine (fork_calls _ _ _).mono ?_
        rintro e w2 ⟨f, mf, rfl, hb2, hmb2, hne2, t2, m2, k2⟩
        go_wp2_with fail
        refine (fork_calls _ _ _).mono ?_
        rintro e w3 ⟨g2, m2g, rfl, hb3, hmb3, hne3, t3, m3, k3⟩
        go_wp2_with fail
        refine (fork_calls _ _ _).mono ?_
        rintro e w4 ⟨g3, m3g, rfl, hb4, hmb4, hne4, t4, m4, k4⟩
        have z1 := k1.size
        have z2 := k2.size
        have z3 := k3.size
        have z4 := k4.size
        have y1 := t1.lt
        have y2 := m1.lt
        have T1 := ((t1.kept k2 (by simp)).kept k3 (by simp)).kept k4 (by simp)
        have M1 := ((m1.kept k2 (by simp)).kept k3 (by simp)).kept k4 (by simp)
        have TB : Tabs w4 w1.heap.size [r, f, g2, g3] := by
          have a1 : Tabs w4 w1.heap.size [r] := Tabs.one _ _ _
          have a2 := a1.snoc rfl ((t2.kept k3 (by simp)).kept k4 (by simp)) ((m2.kept k3 (by simp)).kept k4 (by simp)) (by omega) (by omega)
          have a3 := a2.snoc rfl (t3.kept k4 (by simp)) (m3.kept k4 (by simp)) (by omega) (by omega)
          exact a3.snoc rfl t4 m4 (by omega) (by omega)
        have BL : Below w.heap.size w w4 := (((k1.trans k2).trans k3).trans k4).below (Nat.le_refl _) (by simp)
        clear t1 m1 k1 t2 m2 k2 t3 m3 k3 t4 m4 k4
        have hmk := fun wx => run_make_row' (P := Efeg.prog) 27 29 (.pointer none) 8 Efeg.underlying27 info29 rfl .i64 .i64 ds.length (by omega) (by omega) wx
        go_wp2_with fail
        clear hmk
        have kR : Kept [] w4 ((w4.alloc (.cells #[sptr r, sptr f, sptr g2, sptr g3] 47)).alloc (.cells (madeCells #[.pointer none] ds.length) 29)) := ((Kept.refl _ _).alloc _).alloc _
        have hD : D8 w r mr f g2 g3 w4.heap.size (w4.heap.size + 1) w1.heap.size (w4.heap.size + 2) ds.length 0 [] [] ((w4.alloc (.cells #[sptr r, sptr f, sptr g2, sptr g3] 47)).alloc (.cells (madeCells #[.pointer none] ds.length) 29)) := by
          refine ⟨⟨_, _, T1.kept kR (by simp), M1.kept kR (by simp), OwnsPtrs.nil _ _⟩, TB.kept kR (by simp), ?_, ?_, rfl, BL.trans (kR.below BL.size (by simp)), by simp, hne1, hb1, hmb1, by omega, y1, y2, by omega, by omega, by omega, by omega⟩
          · have := PtrsAt.made (w4.alloc (.cells #[sptr r, sptr f, sptr g2, sptr g3] 47)) ds.length
            simpa using this
          · exact (Below.heap_alloc _ _ _ (by simp)).trans (MapKept.heap_alloc w4 _).1
        clear T1 M1 TB BL kR
        refine wp_forget (fun w5 => D8 w r mr f g2 g3 w4.heap.size (w4.heap.size + 1) w1.heap.size (w4.heap.size + 2) ds.length 0 [] [] w5) hD ?_
        clear hD
        intro w5 hD
        generalize hpb : w4.heap.size + 1 = pb at *
        generalize hBo : w4.heap.size + 2 = Bo at *
        clear hpb hBo
        generalize w4.heap.size = ab at *
        generalize w1.heap.size = B at *
        clear z1 z2 z3 z4 y1 y2 hb1 hmb1 hb2 hmb2 hb3 hmb3 hb4 hmb4 hne1 hne2 hne3 hne4
        have hneq := neq_same
        go_loopw [11] (fun i wr => ∃ (k : Nat) (gs : List Nat), k ≤ ds.length ∧ i = .int .i64 k ∧ D8 w r mr f g2 g3 ab pb B Bo ds.length k gs gs wr) (fun i _ => ds.length - (intOf i).toNat)
        case atStart => exact ⟨0, [], Nat.zero_le _, rfl, hD⟩
        case round =>
          clear hD
          obtain ⟨k, gs, hk, rfl, hD⟩ := hrel
          by_cases hlt : k < ds.length
          · obtain ⟨b, off, i, s, wh, rfl, _, hsz, hw0, hw1, hrow⟩ := h.row hlt
            obtain ⟨c1, c2, c3⟩ := hrow _ hD.below
            have HROW := hide hrow
            have hgl : Hid (gs.length = k) := hD.2.2.2.2.1
            have hlt' : (k : Int) < (ds.length : Int) := by omega
            clear hrow
            obtain ⟨t, ht⟩ : ∃ t, [r, f, g2, g3][(wh % 4).toNat]? = some t := by
              have hlt4 : (wh % 4).toNat < [r, f, g2, g3].length := by simp; omega
              exact ⟨_, List.getElem?_eq_getElem hlt4⟩
            have ca := hD.arr.cell ht
            have HDEF := hide ((hD.same (w' := wr.drew) ⟨rfl, rfl, rfl, rfl⟩).define (idx := i) ht hsz (by omega))
            clear hD ht
            go_wp2_with fail
            go_region_with (go_at_call 30; refine (unhide HDEF).mono ?_; rintro e w3 ⟨_, rfl, sb, rfl, hsy, hD3⟩)
            all_goals
              have e0 := hsy.c0
              have e1 := hsy.c1
              have e2 := hsy.c2
              have e3 := hsy.c3
              obtain ⟨x1, x2, x3⟩ := unhide HROW w3 hD3.below
              obtain ⟨v, ov⟩ := hD3.ptrs.old hlt
              have fv := hD3.ptrs.frozen k
              clear HDEF HROW c1 c2 c3 hsy ca
              go_wp2_with fail
              go_quiet (fail)
              go_wp2_with fail
              go_roundw
              case rel => exact ⟨k + 1, gs ++ [sb], by omega, by go_num, (hD3.same (Same.drewN w3 nq)).put (unhide hgl) hlt⟩
              case measure => simp [intOf]; omega
          · have hkk : k = ds.length := by omega
            subst hkk
            clear hk hlt
            obtain ⟨⟨bu, F, t1, m1, o1⟩, tb, p1, a1, hgl, hb, hBo, n1, n2, n3, n4, n5, n6, n7, n8, n9, n10⟩ := hD
            have HBC : Hid (∀ (j t : Nat), [r, f, g2, g3][j]? = some t → ∀ wx, Same wr wx → Calls Efeg.prog 17 #[.pointer (some ⟨t, 0, none⟩)] wx fun e w' => e = .returned bu ∧ wx = w') := fun j t ht wx hs =>
              builtin_chain (tb.kept (S := []) hs.kept (by simp)) rfl (builtin_root (t1.kept (S := []) hs.kept (by simp))) j t ht
            have HMX : Hid (∀ (j t : Nat), [r, f, g2, g3][j]? = some t → ∀ wx, Same wr wx → Calls Efeg.prog 15 #[.pointer (some ⟨t, 0, none⟩)] wx fun e w' => e = .returned (.int .i64 0) ∧ wx = w') := fun j t ht wx hs => by
              cases j with
              | zero => cases ht; exact max_calls (t1.kept (S := []) hs.kept (by simp))
              | succ j =>
                obtain ⟨p, hp⟩ : ∃ p, [r, f, g2, g3][j]? = some p := ⟨_, List.getElem?_eq_getElem (by have := (List.getElem?_eq_some_iff.1 ht).1; omega)⟩
                obtain ⟨_, _, tt, _⟩ := tb j t p ht hp
                exact max_calls (tt.kept (S := []) hs.kept (by simp))
            obtain ⟨ao, capb, rfl, hbs⟩ : ∃ ao capb, bu = .slice ao ds.length capb ∧ ∀ (j g : Nat), gs[j]? = some g → ∃ rb, ao = some ⟨rb, 0, none⟩ ∧ ∀ wx, Same wr wx → wx.cell? ⟨rb, j, none⟩ = some (sptr g) := by
              rcases o1.form with ⟨rfl, rfl⟩ | ⟨rb, capb, cur, rfl, _, _⟩
              · exact ⟨none, 0, by rw [← hgl]; rfl, by simp⟩
              · exact ⟨_, capb, by rw [hgl], fun j g hg => ⟨rb, rfl, fun wx hs => (o1.kept (S := []) hs.kept (by simp)).cell hg⟩⟩
            go_wp2_with fail
            go_loopw [14] (fun i wx => ∃ k : Nat, k ≤ 4 ∧ i = .int .i64 k ∧ Same wr wx) (fun i _ => 4 - (intOf i).toNat)
            case atStart => exact ⟨0, by omega, rfl, Same.refl _⟩
            case round =>
              obtain ⟨k, hk, rfl, hsame⟩ := hrel
              by_cases hlt : k < 4
              · obtain ⟨t, ht⟩ : ∃ t, [r, f, g2, g3][k]? = some t := ⟨_, List.getElem?_eq_getElem (by simpa using hlt)⟩
                have ca := (a1.kept (S := []) hsame.kept (by simp)).cell ht
                have hlt4 : (k : Int) < 4 := by omega
                go_wp2_with fail
                refine (unhide HBC k t ht _ hsame).mono ?_
                rintro e w6 ⟨rfl, rfl⟩
                clear ca
                go_wp2_with fail
                go_loopw [16] (fun i wy => ∃ j : Nat, j ≤ ds.length ∧ i = .int .i64 j ∧ Hid (Same wr wy)) (fun i _ => ds.length - (intOf i).toNat)
                case atStart => exact ⟨0, Nat.zero_le _, rfl, Same.refl _⟩
                case round =>
                  obtain ⟨j, hj, rfl, hsm⟩ := hrel
                  have hs2 := hsame.trans hsm.out
                  by_cases hjl : j < ds.length
                  · obtain ⟨g, hg⟩ : ∃ g, gs[j]? = some g := ⟨gs[j]'(by omega), by simp⟩
                    obtain ⟨rb, rfl, hcb⟩ := hbs j g hg
                    have cb := hcb _ hs2
                    clear hcb
                    have cp := (p1.kept (S := []) hs2.kept (by simp)).cell hg
                    have hjl' : (j : Int) < (ds.length : Int) := by omega
                    clear hs2 hg
                    go_wp2_with fail
                    go_quiet (fail)
                    go_wp2_with fail
                    go_roundw
                    case rel => exact ⟨j + 1, by omega, by go_num, hsm.out.trans (Same.drewN _ _)⟩
                    case measure => simp [intOf]; omega
                  · have ca2 := (a1.kept (S := []) hs2.kept (by simp)).cell ht
                    go_wp2_with fail
                    refine (unhide HMX k t ht _ hs2).mono ?_
                    rintro e w6 ⟨rfl, rfl⟩
                    go_wp2_with fail
                    go_roundw
                    case rel => exact ⟨k + 1, by omega, by go_num, hs2⟩
                    case measure => simp [intOf]; omega
              · have t2 := t1.kept (S := []) hsame.kept (by simp)
                have m2 := m1.kept (S := []) hsame.kept (by simp)
                have bl := hb.trans ((hsame.kept (S := [])).below hb.size (by simp))
                have hlt4 : (4 : Int) ≤ k := by omega
                go_wp2_with fail
                refine (define_root t2 m2 (s := ⟨#[122, 122]⟩) (by decide +kernel) (by unfold maxLen; omega) n1 (Int.le_refl 0) (by decide)).mono ?_
                rintro e w6 ⟨sb, rfl, _, hsy, _, _, k6⟩
                have c1 := hsy.c1
                have c2 := hsy.c2
                have b6 := bl.trans (k6.below bl.size (by simp; exact ⟨n2, n3⟩))
                clear k6 t2 m2 hsy bl
                go_wp2_with fail
                go_ret
                exact ⟨rfl, b6⟩
end Go.Proofs.Yoefew
