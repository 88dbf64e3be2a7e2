import Derived.Test.YoefewT4
import Derived.Test.YoefewBytes
namespace Go.Proofs.Yoefew
open Go.RowKit Go.Maps

theorem nosym19 (w : World) : Calls Efeg.prog 19 #[.pointer none, .int .i64 0, .bool false] w fun e w' => e = .returned (.bool true) ∧ w = w' := by
  go_enter Efeg.func19, Efeg.ntmps19
  go_wp2
  go_ret
  exact ⟨rfl, rfl⟩

/-- Both tables in the loop of the first law: k names are in the first, none in the second. -/
def L4 (w : World) (b1 mb1 b2 mb2 k : Nat) (wr : World) : Prop :=
  ∃ f, TabAt wr b1 none false mb1 k k (.slice none 0 0) (.slice none 0 0) ∧ MapAt wr mb1 k f ∧ TabAt wr b2 none false mb2 0 0 (.slice none 0 0) (.slice none 0 0) ∧ MapAt wr mb2 0 (fun _ => none) ∧ Below w.heap.size w wr

theorem walk4 {w : World} {a : Option Addr} {ss : List ByteArray} {cap : Nat} (h : StrsAt w a ss) (hl : ss.length ≤ maxLen) (x : ByteArray) (hx : x.size ≤ maxLen) :
    Calls Efeg.prog 4 #[.slice a ss.length cap, .string x] w fun e w' => e = .returned (.bool true) ∧ Below w.heap.size w w' := by
  have HB := hide (bytes20 (cap0 := cap) h hl x hx)
  go_enter Efeg.func4, Efeg.ntmps4
  go_wp2_with fail
  refine (unhide HB).mono ?_
  rintro e w' ⟨⟨r, rfl, hr⟩, rfl⟩
  clear HB
  cases r with
  | false =>
    clear hr
    go_wp2_with fail
    go_ret
    exact ⟨rfl, Below.refl _ _⟩
  | true =>
    have hr := hr rfl
    by_cases h16 : (ss.length : Int) ≤ 65536
    case neg =>
      go_wp2_with fail
      go_ret
      exact ⟨rfl, Below.refl _ _⟩
    go_wp2_with fail
    refine (strBytes_calls h (by omega) (by omega)).mono ?_
    rintro e w' ⟨rfl, rfl⟩
    by_cases hsum : ((8 * ss.length + tot ss : Nat) : Int) + x.size ≤ 1048576
    case neg =>
      go_wp2_with fail
      go_ret
      exact ⟨rfl, Below.refl _ _⟩
    go_wp2_with fail
    refine (new_calls _).mono ?_
    rintro e w1 ⟨b1, mb1, rfl, hb1, hmb1, hne1, t1, m1, k1⟩
    go_wp2_with fail
    refine (new_calls _).mono ?_
    rintro e w2 ⟨b2, mb2, rfl, hb2, hmb2, hne2, t2, m2, k2⟩
    have lb1 := t1.lt
    have lm1 := m1.lt
    have hB : Below w.heap.size w w2 := (k1.trans k2).below (Nat.le_refl _) (by simp)
    have t1' := t1.kept k2 (by simp)
    have m1' := m1.kept k2 (by simp)
    have hL : L4 w b1 mb1 b2 mb2 0 w2 := ⟨_, t1', m1', t2, m2, hB⟩
    clear t1 m1 t2 m2 k1 k2 hB t1' m1'
    go_wp2_with fail
    go_loopw [7] (fun i wr => ∃ k : Nat, k ≤ ss.length ∧ i = .int .i64 k ∧ L4 w b1 mb1 b2 mb2 k wr) (fun i _ => ss.length - (intOf i).toNat)
    case atStart => exact ⟨0, Nat.zero_le _, rfl, hL⟩
    case round =>
      obtain ⟨k, hk, rfl, hR⟩ := hrel
      clear hL
      by_cases hlt : k < ss.length
      · obtain ⟨f, t1, m1, t2, m2, hbel⟩ := hR
        obtain ⟨b, off, s, rfl, hs, hc, hsz⟩ := (h.below hbel (Nat.le_refl _)).at hlt
        clear hs
        go_wp2_with fail
        refine (define_root t1 m1 hsz (by unfold maxLen; omega) hne1 (by omega) (by omega)).mono ?_
        rintro e w3 ⟨sb, rfl, hsb, hsy, t3, m3, k3⟩
        have hbel3 : Below w.heap.size w w3 := hbel.trans (k3.below hbel.size (by simp; omega))
        have hL : L4 w b1 mb1 b2 mb2 (k + 1) w3 := ⟨_, by simpa [show max (k : Int) (k + 1) = k + 1 by omega] using t3, m3, t2.kept k3 (by simp; omega), m2.kept k3 (by simp; omega), hbel3⟩
        clear t1 m1 t2 m2 t3 m3 k3 hbel hbel3 hsy hsb
        go_wp2_with fail
        go_roundw
        case rel => exact ⟨k + 1, by omega, by go_num, hL⟩
        case measure => simp [intOf]; omega
      · have hkk : k = ss.length := by omega
        subst hkk
        clear hk hlt
        obtain ⟨f, t1, m1, t2, m2, hbel⟩ := hR
        have h' := h.below hbel (Nat.le_refl _)
        go_wp2_with fail
        refine (max_calls t1).mono ?_
        rintro e w3 ⟨rfl, rfl⟩
        go_wp2_with fail
        refine (max_calls t2).mono ?_
        rintro e w3 ⟨rfl, rfl⟩
        go_wp2_with fail
        go_loop [8] (fun i => ∃ k : Nat, k ≤ ss.length ∧ i = .int .i64 k) (fun i => ss.length - (intOf i).toNat)
        case atStart => exact ⟨0, Nat.zero_le _, rfl⟩
        case round =>
          obtain ⟨k, hk, rfl⟩ := hrel
          by_cases hlt : k < ss.length
          · obtain ⟨b, off, s, rfl, hs, hc, hsz⟩ := h'.at hlt
            clear hs
            go_wp2_with fail
            refine (resolve_root_none t2 m2 hsz rfl false).mono ?_
            rintro e w3 ⟨rfl, rfl⟩
            go_wp2_with fail
            refine (nosym19 _).mono ?_
            rintro e w3 ⟨rfl, rfl⟩
            go_wp2_with fail
            go_round
            case rel => exact ⟨k + 1, by omega, by go_num⟩
            case measure => simp [intOf]; omega
          · go_wp2_with fail
            refine (define_root t2 m2 hx (by decide +kernel) hne2 (by omega) (by omega)).mono ?_
            rintro e w3 ⟨sb, rfl, hsb, hsy, t3, m3, k3⟩
            have hbel3 : Below w.heap.size w w3 := hbel.trans (k3.below hbel.size (by simp; omega))
            have t1' := t1.kept k3 (by simp; omega)
            have s0 : w3.cell? ⟨sb, 0, none⟩ = some (.string x) := by unfold SymAt at hsy; simp [World.cell?, hsy]
            have s1 : w3.cell? ⟨sb, 1, none⟩ = some (.string ⟨#[71, 76, 79, 66, 65, 76]⟩) := by unfold SymAt at hsy; simp [World.cell?, hsy]
            have s2 : w3.cell? ⟨sb, 2, none⟩ = some (.int .i64 0) := by unfold SymAt at hsy; simp [World.cell?, hsy]
            go_wp2_with fail
            refine (max_calls t3).mono ?_
            rintro e w4 ⟨rfl, rfl⟩
            go_wp2_with fail
            refine (max_calls t1').mono ?_
            rintro e w4 ⟨rfl, rfl⟩
            go_wp2_with fail
            go_ret
            exact ⟨rfl, hbel3⟩
end Go.Proofs.Yoefew
