import Derived.Test.YoefewL5
import Derived.Test.YoefewBytes
import Derived.Test.YoefewEq
import Derived.Deep.QuietTactic
import Derived.BigQuiet
namespace Go.Proofs.Yoefew
open Go.RowKit Go.Maps

theorem nosym19 (w : World) : Calls Efeg.prog 19 #[.pointer none, .int .i64 0, .bool false] w fun e w' => e = .returned (.bool true) ∧ w = w' := by
  go_enter Efeg.func19, Efeg.ntmps19
  go_wp2
  go_ret
  exact ⟨rfl, rfl⟩

set_option maxRecDepth 100000 in
set_option maxHeartbeats 4000000 in
theorem walk5 {w : World} {a : Option Addr} {ss : List ByteArray} {cap : Nat} (h : StrsAt w a ss) (hl : ss.length ≤ maxLen) (x : ByteArray) (hx : x.size ≤ maxLen) :
    Calls Efeg.prog 5 #[.slice a ss.length cap, .string x] w fun e w' => e = .returned (.bool true) ∧ Below w.heap.size w w' := by
  have HB := hide (bytes23 (cap0 := cap) h hl x hx)
  go_enter Efeg.func5, Efeg.ntmps5
  go_wp2_with fail
  refine (unhide HB).mono ?_
  rintro e w' ⟨⟨r, rfl, hr⟩, rfl⟩
  clear HB
  cases r with
  | false =>
    clear hr
    go_wp2_with fail
    go_ret
    exact ⟨rfl, Below.refl _ _⟩
  | true =>
    have hr := hr rfl
    by_cases h16 : (ss.length : Int) ≤ 4096
    case neg =>
      go_wp2_with fail
      go_ret
      exact ⟨rfl, Below.refl _ _⟩
    go_wp2_with fail
    refine (strBytes_calls h (by omega) (by omega)).mono ?_
    rintro e w' ⟨rfl, rfl⟩
    by_cases hsum : ((8 * ss.length + tot ss : Nat) : Int) + x.size ≤ 1048576
    case neg =>
      go_wp2_with fail
      go_ret
      exact ⟨rfl, Below.refl _ _⟩
    go_wp2_with fail
    refine (new_calls _).mono ?_
    rintro e w1 ⟨r, mr, rfl, hb1, hmb1, hne1, t1, m1, k1⟩
    clear hr hsum
    have hmk := fun wx => run_make_row' (P := Efeg.prog) 27 29 (.pointer none) 8 Efeg.underlying27 info29 rfl .i64 .i64 ss.length (by omega) (by omega) wx
    have kA : Kept [] w1 (w1.alloc (.cells (madeCells #[.pointer none] ss.length) 29)) := (Kept.refl _ _).alloc _
    have hS : S5 w r mr w1.heap.size ss 0 [] [] (w1.alloc (.cells (madeCells #[.pointer none] ss.length) 29)) :=
      ⟨hne1, hb1, hmb1, k1.size, rfl, t1.kept kA (by simp), m1.kept kA (by simp), Syms.nil _ _, PtrsAt.made _ _, (k1.trans kA).below (Nat.le_refl _) (by simp)⟩
    clear t1 m1 kA
    go_wp2_with fail
    generalize w1.heap.size = pb at *
    go_loopw [7] (fun i wr => ∃ (k : Nat) (gs : List Nat), k ≤ ss.length ∧ i = .int .i64 k ∧ S5 w r mr pb ss k gs gs wr) (fun i _ => ss.length - (intOf i).toNat)
    case atStart => exact ⟨0, [], Nat.zero_le _, rfl, hS⟩
    case round =>
      clear hS
      obtain ⟨k, gs, hk, rfl, hS⟩ := hrel
      by_cases hlt : k < ss.length
      · obtain ⟨b, off, s, rfl, hs, hsz, hrow⟩ := h.row hlt
        have hc := hrow _ hS.below
        have HC := hide hrow
        have HS := hide hs
        have hgl : Hid (gs.length = k) := hS.2.2.2.2.1
        clear hrow hs
        go_wp2_with fail
        refine (hS.define (unhide HS) hsz (by omega)).mono ?_
        rintro e w3 ⟨sb, rfl, hsy, hS3⟩
        have c0 := hsy.c0
        have c1 := hsy.c1
        have c2 := hsy.c2
        have c3 := hsy.c3
        have hc3 := unhide HC w3 hS3.below
        have t3 := hS3.tab
        obtain ⟨v, ov⟩ := hS3.ptrs.old hlt
        have fv := hS3.ptrs.frozen k
        clear hS hc hsy HC HS
        have hlt' : (k : Int) < (ss.length : Int) := by omega
        go_wp2_with fail
        go_quiet (fail)
        go_wp2_with fail
        refine (max_calls (w := w3.drewN nq) t3).mono ?_
        rintro e w4 ⟨rfl, rfl⟩
        go_wp2_with fail
        go_roundw
        case rel => exact ⟨k + 1, gs ++ [sb], by omega, by go_num, (hS3.drewN nq).put (unhide hgl) hlt⟩
        case measure => simp [intOf]; omega
      · have hkk : k = ss.length := by omega
        subst hkk
        clear hk hlt
        have hbel := hS.below
        have hneq := neq_same
        go_wp2_with fail
        go_loop [9] (fun i => ∃ k : Nat, k ≤ ss.length ∧ i = .int .i64 k) (fun i => ss.length - (intOf i).toNat)
        case atStart => exact ⟨0, Nat.zero_le _, rfl⟩
        case round =>
          obtain ⟨k, hk, rfl⟩ := hrel
          by_cases hlt : k < ss.length
          · obtain ⟨b, off, s, rfl, hs, hsz, hrow⟩ := h.row hlt
            have hc := hrow _ hbel
            rcases hS.resolve s hsz with ⟨hneg, _⟩ | ⟨j, g, hli, hj, hcj, hres⟩
            · exact absurd (last_of_get hs ss.length hlt (Nat.le_refl _)) (by unfold lastIdx at hneg; omega)
            · have hcl := lastIndex_calls (cap := cap) (h.below hbel (Nat.le_refl _)) s (by omega)
              rw [hli] at hcl
              have HCL := hide hcl
              have HRS := hide hres
              have hj' : (j : Int) < (ss.length : Int) := by omega
              have hlt' : (k : Int) < (ss.length : Int) := by omega
              clear hrow hs hcl hres hli
              go_wp2_with fail
              refine (unhide HRS).mono ?_
              rintro e w3 ⟨rfl, rfl⟩
              go_wp2_with fail
              refine (unhide HCL).mono ?_
              rintro e w3 ⟨rfl, rfl⟩
              go_wp2_with fail
              go_round
              case rel => exact ⟨k + 1, by omega, by go_num⟩
              case measure => simp [intOf]; omega
          · have t := hS.tab
            have hcl := lastIndex_calls (cap := cap) (h.below hbel (Nat.le_refl _)) x (by omega)
            rcases hS.resolve x hx with ⟨hneg, hres⟩ | ⟨j, g, hli, hj, hcj, hres⟩
            · have HCL := hide hcl
              have HRS := hide hres
              clear hcl hres
              generalize lastIdx ss x = li at *
              go_wp2_with fail
              refine (unhide HCL).mono ?_
              rintro e w3 ⟨rfl, rfl⟩
              go_wp2_with fail
              refine (unhide HRS).mono ?_
              rintro e w3 ⟨rfl, rfl⟩
              go_wp2_with fail
              refine (nosym19 _).mono ?_
              rintro e w3 ⟨rfl, rfl⟩
              go_wp2_with fail
              refine (free_calls t).mono ?_
              rintro e w3 ⟨rfl, rfl⟩
              go_wp2_with fail
              go_ret
              exact ⟨rfl, hbel⟩
            · rw [hli] at hcl
              have HCL := hide hcl
              have HRS := hide hres
              have hj' : (j : Int) < (ss.length : Int) := by omega
              clear hcl hres hli
              go_wp2_with fail
              refine (unhide HCL).mono ?_
              rintro e w3 ⟨rfl, rfl⟩
              go_wp2_with fail
              refine (unhide HRS).mono ?_
              rintro e w3 ⟨rfl, rfl⟩
              go_wp2_with fail
              refine (free_calls t).mono ?_
              rintro e w3 ⟨rfl, rfl⟩
              go_wp2_with fail
              go_ret
              exact ⟨rfl, hbel⟩
end Go.Proofs.Yoefew
