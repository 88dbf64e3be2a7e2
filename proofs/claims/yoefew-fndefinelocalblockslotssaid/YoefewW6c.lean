import Derived.Test.YoefewL6
import Derived.Test.YoefewSym
import Derived.Test.YoefewBytes4
import Derived.Deep.QuietTactic
import Derived.BigQuiet
namespace Go.Proofs.Yoefew
open Go.RowKit Go.Maps

set_option maxRecDepth 100000 in
set_option maxHeartbeats 4000000 in
theorem walk6c {w : World} {a0 a1 a2 a3 : Option Addr} {ss0 ss1 ss2 ss3 : List ByteArray} {cap0 cap1 cap2 cap3 : Nat} (h0 : StrsAt w a0 ss0) (h1 : StrsAt w a1 ss1) (h2 : StrsAt w a2 ss2) (h3 : StrsAt w a3 ss3)
    (l0 : ss0.length ≤ maxLen) (l1 : ss1.length ≤ maxLen) (l2 : ss2.length ≤ maxLen) (l3 : ss3.length ≤ maxLen) (p1 : (ss1.length : Int) ≤ 0) (z1 : ((ss1.length : Int) == 0) = true) (p2 : (0 : Int) < ss2.length) (z2 : ((ss2.length : Int) == 0) = false) :
    Calls Efeg.prog 6 #[.slice a0 ss0.length cap0, .slice a1 ss1.length cap1, .slice a2 ss2.length cap2, .slice a3 ss3.length cap3] w fun e w' => e = .returned (.bool true) ∧ Below w.heap.size w w' := by
  have HB := hide (bytes25 (cap0 := cap0) (cap1 := cap1) (cap2 := cap2) (cap3 := cap3) h0 h1 h2 h3 l0 l1 l2 l3)
  unfold maxLen at l0 l1 l2 l3
  go_enter Efeg.func6, Efeg.ntmps6
  go_wp2_with fail
  refine (unhide HB).mono ?_
  rintro e w' ⟨⟨r, rfl, hr⟩, rfl⟩
  clear HB
  cases r with
  | false =>
    clear hr
    go_wp2_with fail
    go_ret
    exact ⟨rfl, Below.refl _ _⟩
  | true =>
    have hr := hr rfl
    by_cases h16 : (ss0.length : Int) ≤ 65536 ∧ (ss1.length : Int) ≤ 65536 ∧ (ss2.length : Int) ≤ 65536 ∧ (ss3.length : Int) ≤ 65536
    case neg =>
      go_wp2_with fail
      all_goals (go_ret; exact ⟨rfl, Below.refl _ _⟩)
    obtain ⟨g0, g1, g2, g3⟩ := h16
    go_wp2_with fail
    refine (strBytes_calls h0 (by omega) (by omega)).mono ?_
    rintro e w' ⟨rfl, rfl⟩
    go_wp2_with fail
    refine (strBytes_calls h1 (by omega) (by omega)).mono ?_
    rintro e w' ⟨rfl, rfl⟩
    go_wp2_with fail
    refine (strBytes_calls h2 (by omega) (by omega)).mono ?_
    rintro e w' ⟨rfl, rfl⟩
    go_wp2_with fail
    refine (strBytes_calls h3 (by omega) (by omega)).mono ?_
    rintro e w' ⟨rfl, rfl⟩
    by_cases hsum : ((8 * ss0.length + tot ss0 : Nat) : Int) + ((8 * ss1.length + tot ss1 : Nat) : Int) + ((8 * ss2.length + tot ss2 : Nat) : Int) + ((8 * ss3.length + tot ss3 : Nat) : Int) ≤ 1048576
    case neg =>
      go_wp2_with fail
      go_ret
      exact ⟨rfl, Below.refl _ _⟩
    go_wp2_with fail
    clear hr hsum
    refine (new_calls _).mono ?_
    rintro e w1 ⟨r, mr, rfl, hb1, hmb1, hne1, t1, m1, k1⟩
    go_wp2_with fail
    refine (fork_calls _ _ _).mono ?_
    rintro e w2 ⟨fb, mf, rfl, hb2, hmb2, hne2, t2, m2, k2⟩
    have hz := t1.lt
    have hz1 := k1.size
    have hR : F6 w r mr fb mf 0 0 w2 := ⟨hne2, by omega, by omega, by omega, by omega, t1.kept k2 (by simp), ⟨_, t2, m2⟩, (k1.trans k2).below (Nat.le_refl _) (by simp)⟩
    clear t1 m1 k1 t2 m2 k2
    go_wp2_with fail
    go_loopw [12] (fun i wr => ∃ k : Nat, k ≤ ss0.length ∧ i = .int .i64 k ∧ F6 w r mr fb mf k k wr) (fun i _ => ss0.length - (intOf i).toNat)
    case atStart => exact ⟨0, Nat.zero_le _, rfl, hR⟩
    case round =>
      clear hR
      obtain ⟨k, hk, rfl, hR⟩ := hrel
      by_cases hlt : k < ss0.length
      · obtain ⟨b, off, s, rfl, _, hsz, hrow⟩ := h0.row hlt
        have hc := hrow _ hR.below
        have HC := hide hrow
        clear hrow
        go_wp2_with fail
        refine (hR.def_fn hsz (by omega)).mono ?_
        rintro e w3 ⟨sb, rfl, hsy, hR3⟩
        have c0 := hsy.c0
        have c1 := hsy.c1
        have c2 := hsy.c2
        have c3 := hsy.c3
        have hc3 := unhide HC w3 hR3.below
        clear hR hc hsy HC
        have hlt' : (k : Int) < (ss0.length : Int) := by omega
        go_wp2_with fail
        go_quiet (fail)
        go_wp2_with fail
        go_roundw
        case rel => exact ⟨k + 1, by omega, by go_num, by have := hR3.drewN nq; rwa [show max k (k + 1) = k + 1 by omega] at this⟩
        case measure => simp [intOf]; omega
      · have hkk : k = ss0.length := by omega
        subst hkk
        clear hk hlt
        go_wp2_with fail
        refine (hR.fork).mono ?_
        rintro e w2 ⟨g1', mg1, rfl, hR2, hG, hg, hmg⟩
        have lr := hR.lt
        clear hR
        go_wp2_with fail
        go_loopw [15] (fun i wr => ∃ k : Nat, k ≤ ss1.length ∧ i = .int .i64 k ∧ F6 w r mr fb mf ss0.length (ss0.length + k) wr ∧ K6 w g1' mg1 fb k (topOf ss0.length k) wr) (fun i _ => ss1.length - (intOf i).toNat)
        case atStart => exact ⟨0, Nat.zero_le _, rfl, hR2, hG⟩
        case round =>
          clear hR2 hG
          obtain ⟨k, hk, rfl, hR, hG⟩ := hrel
          by_cases hlt : k < ss1.length
          · exact absurd hlt (by omega)
          · have hkk : k = ss1.length := by omega
            subst hkk
            clear hk hlt
            obtain ⟨_, _, _, f, tg, _⟩ := id hG
            rw [show ss1.length = 0 by omega, topOf_zero] at tg
            go_wp2_with fail
            refine (max_calls tg).mono ?_
            rintro e w4 ⟨rfl, rfl⟩
            clear hG hg hmg tg
            go_wp2_with fail
            refine (hR.fork).mono ?_
            rintro e w2 ⟨g2', mg2, rfl, hR2, hG, hg, hmg⟩
            have lr := hR.lt
            clear hR
            go_wp2_with fail
            go_loopw [18] (fun i wr => ∃ k : Nat, k ≤ ss2.length ∧ i = .int .i64 k ∧ F6 w r mr fb mf ss0.length (ss0.length + max ss1.length k) wr ∧ K6 w g2' mg2 fb k (topOf ss0.length k) wr) (fun i _ => ss2.length - (intOf i).toNat)
            case atStart => exact ⟨0, Nat.zero_le _, rfl, by simpa using hR2, hG⟩
            case round =>
              clear hR2 hG
              obtain ⟨k, hk, rfl, hR, hG⟩ := hrel
              by_cases hlt : k < ss2.length
              · obtain ⟨b, off, s, rfl, _, hsz, hrow⟩ := h2.row hlt
                have hc := hrow _ hR.below
                have HC := hide hrow
                clear hrow
                go_wp2_with fail
                refine (hR.def_blk hG hsz (by omega) (by omega) (by omega) (by omega) (by omega) (by omega) (by omega)).mono ?_
                rintro e w3 ⟨sb, rfl, hsy, hR3, hG3⟩
                have c0 := hsy.c0
                have c1 := hsy.c1
                have c2 := hsy.c2
                have hc3 := unhide HC w3 hR3.below
                clear hR hc hsy HC hG
                have hlt' : (k : Int) < (ss2.length : Int) := by omega
                go_wp2_with fail
                go_quiet (fail)
                go_wp2_with fail
                go_roundw
                case rel =>
                  refine ⟨k + 1, by omega, by go_num, ?_, ?_⟩
                  · have := hR3.drewN nq
                    rwa [show max (ss0.length + max ss1.length k) (ss0.length + k + 1) = ss0.length + max ss1.length (k + 1) by omega] at this
                  · have := hG3.drewN nq
                    rwa [topOf_succ] at this
                case measure => simp [intOf]; omega
              · have hkk : k = ss2.length := by omega
                subst hkk
                clear hk hlt
                obtain ⟨_, _, _, f, tg, _⟩ := id hG
                rw [topOf_pos (by omega)] at tg
                go_wp2_with fail
                refine (max_calls tg).mono ?_
                rintro e w4 ⟨rfl, rfl⟩
                clear hG hg hmg tg
                go_wp2_with fail
                go_loopw [20] (fun i wr => ∃ k : Nat, k ≤ ss3.length ∧ i = .int .i64 k ∧ F6 w r mr fb mf (ss0.length + k) (ss0.length + max (max ss1.length ss2.length) k) wr) (fun i _ => ss3.length - (intOf i).toNat)
                case atStart => exact ⟨0, Nat.zero_le _, rfl, by simpa using hR⟩
                case round =>
                  clear hR
                  obtain ⟨k, hk, rfl, hR⟩ := hrel
                  by_cases hlt : k < ss3.length
                  · obtain ⟨b, off, s, rfl, _, hsz, hrow⟩ := h3.row hlt
                    have hc := hrow _ hR.below
                    have HC := hide hrow
                    clear hrow
                    go_wp2_with fail
                    refine (hR.def_fn hsz (by omega)).mono ?_
                    rintro e w3 ⟨sb, rfl, hsy, hR3⟩
                    have c0 := hsy.c0
                    have c1 := hsy.c1
                    have c2 := hsy.c2
                    have hc3 := unhide HC w3 hR3.below
                    clear hR hc hsy HC
                    have hlt' : (k : Int) < (ss3.length : Int) := by omega
                    go_wp2_with fail
                    go_quiet (fail)
                    go_wp2_with fail
                    go_roundw
                    case rel =>
                      refine ⟨k + 1, by omega, by go_num, ?_⟩
                      have := hR3.drewN nq
                      rwa [show max (ss0.length + max (max ss1.length ss2.length) k) (ss0.length + k + 1) = ss0.length + max (max ss1.length ss2.length) (k + 1) by omega] at this
                    case measure => simp [intOf]; omega
                  · have hkk : k = ss3.length := by omega
                    subst hkk
                    clear hk hlt
                    have HM1 := hide (fun wx => maxInt_calls ss1.length ss2.length wx)
                    have HM2 := hide (fun wx => maxInt_calls (max ss1.length ss2.length) ss3.length wx)
                    have hmx : max (max ss1.length ss2.length) ss3.length ≤ 65536 := by omega
                    generalize max ss1.length ss2.length = m12 at *
                    generalize max m12 ss3.length = mx at *
                    have hbel := hR.below
                    obtain ⟨_, _, _, _, _, tr, ⟨f, t, _⟩, _⟩ := hR
                    go_wp2_with fail
                    refine (unhide HM1 _).mono ?_
                    rintro e w5 ⟨rfl, rfl⟩
                    go_wp2_with fail
                    refine (unhide HM2 _).mono ?_
                    rintro e w5 ⟨rfl, rfl⟩
                    go_wp2_with fail
                    refine (max_calls t).mono ?_
                    rintro e w5 ⟨rfl, rfl⟩
                    go_wp2_with fail
                    refine (max_calls tr).mono ?_
                    rintro e w5 ⟨rfl, rfl⟩
                    go_wp2_with fail
                    go_ret
                    exact ⟨rfl, hbel⟩
end Go.Proofs.Yoefew
