import Derived.Test.YoefewL7
import Derived.Test.YoefewBytes4
import Derived.Deep.QuietTactic
import Derived.BigQuiet
namespace Go.Proofs.Yoefew
open Go.RowKit Go.Maps

theorem SymAt.c0 {w : World} {b : Nat} {name sc : ByteArray} {idx : Int} {la : Bool} (h : SymAt w b name sc idx la) : w.cell? ⟨b, 0, none⟩ = some (.string name) := by
  unfold SymAt at h; simp [World.cell?, h]
theorem SymAt.c1 {w : World} {b : Nat} {name sc : ByteArray} {idx : Int} {la : Bool} (h : SymAt w b name sc idx la) : w.cell? ⟨b, 1, none⟩ = some (.string sc) := by
  unfold SymAt at h; simp [World.cell?, h]
theorem SymAt.c2 {w : World} {b : Nat} {name sc : ByteArray} {idx : Int} {la : Bool} (h : SymAt w b name sc idx la) : w.cell? ⟨b, 2, none⟩ = some (.int .i64 idx) := by
  unfold SymAt at h; simp [World.cell?, h]
theorem SymAt.c3 {w : World} {b : Nat} {name sc : ByteArray} {idx : Int} {la : Bool} (h : SymAt w b name sc idx la) : w.cell? ⟨b, 3, none⟩ = some (.bool la) := by
  unfold SymAt at h; simp [World.cell?, h]

theorem R7.drewN {w wr : World} {r mr N : Nat} (h : R7 w r mr N wr) (n : Nat) : R7 w r mr N (wr.drewN n) :=
  ⟨h.1, h.2.1, h.2.2.1, h.2.2.2.1, h.below.trans ⟨rfl, rfl, rfl, Nat.le_refl _, fun _ _ => rfl⟩⟩
theorem B7.drewN {w wr : World} {g mg p N : Nat} (h : B7 w g mg p N wr) (n : Nat) : B7 w g mg p N (wr.drewN n) := h

theorem B7.kept {w wr w' : World} {g mg p N : Nat} (h : B7 w g mg p N wr) (k : Kept [] wr w') : B7 w g mg p N w' := by
  obtain ⟨h1, h2, h3, f, md, t, m⟩ := h
  exact ⟨h1, h2, h3, f, md, t.kept k (by simp), m.kept k (by simp)⟩

set_option maxRecDepth 100000 in
set_option maxHeartbeats 4000000 in
theorem walk7 {w : World} {a0 a1 a2 a3 : Option Addr} {ss0 ss1 ss2 ss3 : List ByteArray} {cap0 cap1 cap2 cap3 : Nat} (h0 : StrsAt w a0 ss0) (h1 : StrsAt w a1 ss1) (h2 : StrsAt w a2 ss2) (h3 : StrsAt w a3 ss3)
    (l0 : ss0.length ≤ maxLen) (l1 : ss1.length ≤ maxLen) (l2 : ss2.length ≤ maxLen) (l3 : ss3.length ≤ maxLen) :
    Calls Efeg.prog 7 #[.slice a0 ss0.length cap0, .slice a1 ss1.length cap1, .slice a2 ss2.length cap2, .slice a3 ss3.length cap3] w fun e w' => e = .returned (.bool true) ∧ Below w.heap.size w w' := by
  have HB := hide (bytes28 (cap0 := cap0) (cap1 := cap1) (cap2 := cap2) (cap3 := cap3) h0 h1 h2 h3 l0 l1 l2 l3)
  unfold maxLen at l0 l1 l2 l3
  go_enter Efeg.func7, Efeg.ntmps7
  go_wp2_with fail
  refine (unhide HB).mono ?_
  rintro e w' ⟨⟨r, rfl, hr⟩, rfl⟩
  clear HB
  cases r with
  | false =>
    clear hr
    go_wp2_with fail
    go_ret
    exact ⟨rfl, Below.refl _ _⟩
  | true =>
    have hr := hr rfl
    by_cases h16 : (ss0.length : Int) ≤ 65536 ∧ (ss1.length : Int) ≤ 65536 ∧ (ss2.length : Int) ≤ 65536 ∧ (ss3.length : Int) ≤ 65536
    case neg =>
      go_wp2_with fail
      all_goals (go_ret; exact ⟨rfl, Below.refl _ _⟩)
    obtain ⟨g0, g1, g2, g3⟩ := h16
    go_wp2_with fail
    refine (strBytes_calls h0 (by omega) (by omega)).mono ?_
    rintro e w' ⟨rfl, rfl⟩
    go_wp2_with fail
    refine (strBytes_calls h1 (by omega) (by omega)).mono ?_
    rintro e w' ⟨rfl, rfl⟩
    go_wp2_with fail
    refine (strBytes_calls h2 (by omega) (by omega)).mono ?_
    rintro e w' ⟨rfl, rfl⟩
    go_wp2_with fail
    refine (strBytes_calls h3 (by omega) (by omega)).mono ?_
    rintro e w' ⟨rfl, rfl⟩
    by_cases hsum : ((8 * ss0.length + tot ss0 : Nat) : Int) + ((8 * ss1.length + tot ss1 : Nat) : Int) + ((8 * ss2.length + tot ss2 : Nat) : Int) + ((8 * ss3.length + tot ss3 : Nat) : Int) ≤ 1048576
    case neg =>
      go_wp2_with fail
      go_ret
      exact ⟨rfl, Below.refl _ _⟩
    go_wp2_with fail
    clear hr hsum
    refine (new_calls _).mono ?_
    rintro e w1 ⟨r, mr, rfl, hb1, hmb1, hne1, t1, m1, k1⟩
    have hR : R7 w r mr 0 w1 := ⟨hne1, hb1, hmb1, ⟨_, t1, m1⟩, k1.below (Nat.le_refl _) (by simp)⟩
    clear t1 m1 k1
    go_wp2_with fail
    go_loopw [10] (fun i wr => ∃ k : Nat, k ≤ ss0.length ∧ i = .int .i64 k ∧ R7 w r mr k wr) (fun i _ => ss0.length - (intOf i).toNat)
    case atStart => exact ⟨0, Nat.zero_le _, rfl, hR⟩
    case round =>
      clear hR
      obtain ⟨k, hk, rfl, hR⟩ := hrel
      by_cases hlt : k < ss0.length
      · obtain ⟨b, off, s, rfl, _, hsz, hrow⟩ := h0.row hlt
        have hc := hrow _ hR.below
        have HC := hide hrow
        clear hrow
        go_wp2_with fail
        refine (hR.def_root hsz (by omega)).mono ?_
        rintro e w3 ⟨sb, rfl, hsy, hR3⟩
        have c0 := hsy.c0
        have c1 := hsy.c1
        have c2 := hsy.c2
        have hc3 := unhide HC w3 hR3.below
        clear hR hc hsy HC
        have hlt' : (k : Int) < (ss0.length : Int) := by omega
        go_wp2_with fail
        go_quiet (fail)
        go_wp2_with fail
        go_roundw
        case rel => exact ⟨k + 1, by omega, by go_num, hR3.drewN _⟩
        case measure => simp [intOf]; omega
      · have hkk : k = ss0.length := by omega
        subst hkk
        clear hk hlt
        go_wp2_with fail
        refine (hR.fork r).mono ?_
        rintro e w2 ⟨g1', mg1, rfl, hR2, hG, hg, hmg, _⟩
        have lr := hR.lt
        clear hR
        go_wp2_with fail
        go_loopw [14] (fun i wr => ∃ k : Nat, k ≤ ss1.length ∧ i = .int .i64 k ∧ R7 w r mr (ss0.length + k) wr ∧ B7 w g1' mg1 r (ss0.length + k) wr) (fun i _ => ss1.length - (intOf i).toNat)
        case atStart => exact ⟨0, Nat.zero_le _, rfl, hR2, hG.mono (by omega)⟩
        case round =>
          clear hR2 hG
          obtain ⟨k, hk, rfl, hR, hG⟩ := hrel
          by_cases hlt : k < ss1.length
          · obtain ⟨b, off, s, rfl, _, hsz, hrow⟩ := h1.row hlt
            have hc := hrow _ hR.below
            have HC := hide hrow
            clear hrow
            go_wp2_with fail
            refine (hR.def_g1 hG hsz (by omega) (by omega) (by omega) (by omega) (by omega)).mono ?_
            rintro e w3 ⟨sb, rfl, hsy, hR3, hG3⟩
            have c0 := hsy.c0
            have c1 := hsy.c1
            have c2 := hsy.c2
            have hc3 := unhide HC w3 hR3.below
            clear hR hc hsy HC hG
            have hlt' : (k : Int) < (ss1.length : Int) := by omega
            go_wp2_with fail
            go_quiet (fail)
            go_wp2_with fail
            go_roundw
            case rel => exact ⟨k + 1, by omega, by go_num, hR3.drewN _, hG3.drewN _⟩
            case measure => simp [intOf]; omega
          · have hkk : k = ss1.length := by omega
            subst hkk
            clear hk hlt hG hg hmg
            go_wp2_with fail
            refine (hR.fork r).mono ?_
            rintro e w3 ⟨g2', mg2, rfl, hR3, hG3, hg2, hmg2, _⟩
            have lr2 := hR.lt
            clear hR lr
            go_wp2_with fail
            obtain ⟨hf, hhf, hle⟩ : ∃ hf : Nat, ((ss2.length : Int) / 2) = hf ∧ hf ≤ ss2.length := ⟨ss2.length / 2, by omega, by omega⟩
            rw [hhf]
            clear hhf
            go_loopw [18] (fun i wr => ∃ k : Nat, k ≤ hf ∧ i = .int .i64 k ∧ R7 w r mr (ss0.length + ss1.length + k) wr ∧ B7 w g2' mg2 r (ss0.length + ss1.length + k) wr) (fun i _ => hf - (intOf i).toNat)
            case atStart => exact ⟨0, Nat.zero_le _, rfl, hR3, hG3.mono (by omega)⟩
            case round =>
              clear hR3 hG3
              obtain ⟨k, hk, rfl, hR, hG⟩ := hrel
              by_cases hlt : k < hf
              · obtain ⟨b, off, s, rfl, _, hsz, hrow⟩ := h2.row (k := k) (by omega)
                have hc := hrow _ hR.below
                have HC := hide hrow
                clear hrow
                go_wp2_with fail
                refine (hR.def_g1 hG hsz (by omega) (by omega) (by omega) (by omega) (by omega)).mono ?_
                rintro e w3 ⟨sb, rfl, hsy, hR3, hG3⟩
                have c0 := hsy.c0
                have c1 := hsy.c1
                have c2 := hsy.c2
                have hc3 := unhide HC w3 hR3.below
                clear hR hc hsy HC hG
                have hlt' : (k : Int) < (ss2.length : Int) := by omega
                go_wp2_with fail
                go_quiet (fail)
                go_wp2_with fail
                go_roundw
                case rel => exact ⟨k + 1, by omega, by go_num, hR3.drewN _, hG3.drewN _⟩
                case measure => simp [intOf]; omega
              · have hkk : k = hf := by omega
                subst hkk
                clear hk hlt
                go_wp2_with fail
                refine (hR.fork g2').mono ?_
                rintro e w4 ⟨g3', mg3, rfl, hR4, hG4, hg3, hmg3, hk4⟩
                have lr3 := hR.lt
                have lg2 := hG.lt
                have hG4' := hG.kept hk4
                clear hR hG hk4
                go_wp2_with fail
                go_loopw [21] (fun i wr => ∃ j : Nat, k ≤ j ∧ j ≤ ss2.length ∧ i = .int .i64 j ∧ R7 w r mr (ss0.length + ss1.length + j) wr ∧ B7 w g2' mg2 r (ss0.length + ss1.length + j) wr ∧ B7 w g3' mg3 g2' (ss0.length + ss1.length + j) wr) (fun i _ => ss2.length - (intOf i).toNat)
                case atStart => exact ⟨k, Nat.le_refl _, hle, rfl, hR4, hG4', hG4.mono (by omega)⟩
                case round =>
                  clear hR4 hG4 hG4'
                  obtain ⟨j, hkj, hj, rfl, hR, hG, hG2⟩ := hrel
                  by_cases hlt : j < ss2.length
                  · obtain ⟨b, off, s, rfl, _, hsz, hrow⟩ := h2.row hlt
                    have hc := hrow _ hR.below
                    have HC := hide hrow
                    clear hrow
                    go_wp2_with fail
                    refine (hR.def_g2 hG hG2 hsz (by omega) (by omega) (by omega) (by omega) (by omega) (by omega) (by omega) (by omega) (by omega) (by omega) (by omega) (by omega)).mono ?_
                    rintro e w3 ⟨sb, rfl, hsy, hR3, hG3, hG5⟩
                    have c0 := hsy.c0
                    have c1 := hsy.c1
                    have c2 := hsy.c2
                    have hc3 := unhide HC w3 hR3.below
                    clear hR hc hsy HC hG hG2
                    have hlt' : (j : Int) < (ss2.length : Int) := by omega
                    go_wp2_with fail
                    go_quiet (fail)
                    go_wp2_with fail
                    go_roundw
                    case rel => exact ⟨j + 1, by omega, by omega, by go_num, hR3.drewN _, hG3.drewN _, hG5.drewN _⟩
                    case measure => simp [intOf]; omega
                  · have hkk : j = ss2.length := by omega
                    subst hkk
                    clear hj hlt hG hG2 hkj
                    go_wp2_with fail
                    go_loopw [23] (fun i wr => ∃ k : Nat, k ≤ ss3.length ∧ i = .int .i64 k ∧ R7 w r mr (ss0.length + ss1.length + ss2.length + k) wr) (fun i _ => ss3.length - (intOf i).toNat)
                    case atStart => exact ⟨0, Nat.zero_le _, rfl, hR⟩
                    case round =>
                      clear hR
                      obtain ⟨k, hk, rfl, hR⟩ := hrel
                      by_cases hlt : k < ss3.length
                      · obtain ⟨b, off, s, rfl, _, hsz, hrow⟩ := h3.row hlt
                        have hc := hrow _ hR.below
                        have HC := hide hrow
                        clear hrow
                        go_wp2_with fail
                        refine (hR.def_root hsz (by omega)).mono ?_
                        rintro e w3 ⟨sb, rfl, hsy, hR3⟩
                        have c0 := hsy.c0
                        have c1 := hsy.c1
                        have c2 := hsy.c2
                        have hc3 := unhide HC w3 hR3.below
                        clear hR hc hsy HC
                        have hlt' : (k : Int) < (ss3.length : Int) := by omega
                        go_wp2_with fail
                        go_quiet (fail)
                        go_wp2_with fail
                        go_roundw
                        case rel => exact ⟨k + 1, by omega, by go_num, hR3.drewN _⟩
                        case measure => simp [intOf]; omega
                      · have hkk : k = ss3.length := by omega
                        subst hkk
                        clear hk hlt
                        have hbel := hR.below
                        obtain ⟨_, _, _, ⟨f, t, m⟩, _⟩ := hR
                        go_wp2_with fail
                        refine (max_calls t).mono ?_
                        rintro e w5 ⟨rfl, rfl⟩
                        go_wp2_with fail
                        go_ret
                        exact ⟨rfl, hbel⟩
end Go.Proofs.Yoefew
