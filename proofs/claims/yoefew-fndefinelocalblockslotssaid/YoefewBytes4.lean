import Derived.Test.YoefewBytes
namespace Go.Proofs.Yoefew
open Go.RowKit Go.Maps

theorem bytes25 {w : World} {a0 : Option Addr} {ss0 : List ByteArray} {cap0 : Nat} {a1 : Option Addr} {ss1 : List ByteArray} {cap1 : Nat} {a2 : Option Addr} {ss2 : List ByteArray} {cap2 : Nat} {a3 : Option Addr} {ss3 : List ByteArray} {cap3 : Nat} (h0 : StrsAt w a0 ss0) (h1 : StrsAt w a1 ss1) (h2 : StrsAt w a2 ss2) (h3 : StrsAt w a3 ss3) (l0 : ss0.length ≤ maxLen) (l1 : ss1.length ≤ maxLen) (l2 : ss2.length ≤ maxLen) (l3 : ss3.length ≤ maxLen) :
    Calls Efeg.prog 25 #[.slice a0 ss0.length cap0, .slice a1 ss1.length cap1, .slice a2 ss2.length cap2, .slice a3 ss3.length cap3] w fun e w' => Said ((ss0.length + tot ss0) + (ss1.length + tot ss1) + (ss2.length + tot ss2) + (ss3.length + tot ss3) ≤ 1048576) e ∧ w = w' := by
  unfold maxLen at l0 l1 l2 l3
  by_cases hl : (ss0.length : Int) ≤ 1048576
  case neg =>
    go_enter Efeg.func25, Efeg.ntmps25
    go_wp2
    go_ret
    exact ⟨Said.no, rfl⟩
  go_enter Efeg.func25, Efeg.ntmps25
  go_wp2
  go_loop [9, 10] (fun t i => ∃ k : Nat, k ≤ ss0.length ∧ i = .int .i64 k ∧ t = .int .i64 (((ss0.length + tot (ss0.take k)) : Nat) : Int) ∧ (ss0.length + tot (ss0.take k)) ≤ 1048576) (fun _ i => ss0.length - (intOf i).toNat)
  case atStart => exact ⟨0, Nat.zero_le _, rfl, by simp [tot_nil] <;> go_num, by simp [tot_nil] <;> omega⟩
  case round =>
    obtain ⟨k, hk, rfl, rfl, hb0⟩ := hrel
    by_cases hlt : k < ss0.length
    · obtain ⟨b, off, s, rfl, hs, hc, hsz⟩ := h0.at hlt
      have HT := hide (tot_take hs)
      unfold maxLen at hsz
      clear hs
      generalize tot (ss0.take k) = tk at *
      go_wp2
      · go_ret
        exact ⟨Said.no, rfl⟩
      · go_ret
        exact ⟨Said.no, rfl⟩
      · go_round
        case rel => exact ⟨k + 1, by omega, by go_num, by rw [unhide HT]; go_num, by rw [unhide HT]; omega⟩
        case measure => simp [intOf]; omega
    · have hkk : k = ss0.length := by omega
      subst hkk
      rw [List.take_length] at hb0 ⊢
      clear hlt hk
      go_wp2
      · go_ret
        exact ⟨Said.no, rfl⟩
      · go_ret
        exact ⟨Said.no, rfl⟩
      go_loop [9, 11] (fun t i => ∃ k : Nat, k ≤ ss1.length ∧ i = .int .i64 k ∧ t = .int .i64 (((ss0.length + tot ss0) + (ss1.length + tot (ss1.take k)) : Nat) : Int) ∧ (ss0.length + tot ss0) + (ss1.length + tot (ss1.take k)) ≤ 1048576) (fun _ i => ss1.length - (intOf i).toNat)
      case atStart => exact ⟨0, Nat.zero_le _, rfl, by simp [tot_nil] <;> go_num, by simp [tot_nil] <;> omega⟩
      case round =>
        obtain ⟨k, hk, rfl, rfl, hb1⟩ := hrel
        by_cases hlt : k < ss1.length
        · obtain ⟨b, off, s, rfl, hs, hc, hsz⟩ := h1.at hlt
          have HT := hide (tot_take hs)
          unfold maxLen at hsz
          clear hs
          generalize tot (ss1.take k) = tk at *
          go_wp2
          · go_ret
            exact ⟨Said.no, rfl⟩
          · go_ret
            exact ⟨Said.no, rfl⟩
          · go_round
            case rel => exact ⟨k + 1, by omega, by go_num, by rw [unhide HT]; go_num, by rw [unhide HT]; omega⟩
            case measure => simp [intOf]; omega
        · have hkk : k = ss1.length := by omega
          subst hkk
          rw [List.take_length] at hb1 ⊢
          clear hlt hk
          go_wp2
          · go_ret
            exact ⟨Said.no, rfl⟩
          · go_ret
            exact ⟨Said.no, rfl⟩
          go_loop [9, 12] (fun t i => ∃ k : Nat, k ≤ ss2.length ∧ i = .int .i64 k ∧ t = .int .i64 (((ss0.length + tot ss0) + (ss1.length + tot ss1) + (ss2.length + tot (ss2.take k)) : Nat) : Int) ∧ (ss0.length + tot ss0) + (ss1.length + tot ss1) + (ss2.length + tot (ss2.take k)) ≤ 1048576) (fun _ i => ss2.length - (intOf i).toNat)
          case atStart => exact ⟨0, Nat.zero_le _, rfl, by simp [tot_nil] <;> go_num, by simp [tot_nil] <;> omega⟩
          case round =>
            obtain ⟨k, hk, rfl, rfl, hb2⟩ := hrel
            by_cases hlt : k < ss2.length
            · obtain ⟨b, off, s, rfl, hs, hc, hsz⟩ := h2.at hlt
              have HT := hide (tot_take hs)
              unfold maxLen at hsz
              clear hs
              generalize tot (ss2.take k) = tk at *
              go_wp2
              · go_ret
                exact ⟨Said.no, rfl⟩
              · go_ret
                exact ⟨Said.no, rfl⟩
              · go_round
                case rel => exact ⟨k + 1, by omega, by go_num, by rw [unhide HT]; go_num, by rw [unhide HT]; omega⟩
                case measure => simp [intOf]; omega
            · have hkk : k = ss2.length := by omega
              subst hkk
              rw [List.take_length] at hb2 ⊢
              clear hlt hk
              go_wp2
              · go_ret
                exact ⟨Said.no, rfl⟩
              · go_ret
                exact ⟨Said.no, rfl⟩
              go_loop [9, 13] (fun t i => ∃ k : Nat, k ≤ ss3.length ∧ i = .int .i64 k ∧ t = .int .i64 (((ss0.length + tot ss0) + (ss1.length + tot ss1) + (ss2.length + tot ss2) + (ss3.length + tot (ss3.take k)) : Nat) : Int) ∧ (ss0.length + tot ss0) + (ss1.length + tot ss1) + (ss2.length + tot ss2) + (ss3.length + tot (ss3.take k)) ≤ 1048576) (fun _ i => ss3.length - (intOf i).toNat)
              case atStart => exact ⟨0, Nat.zero_le _, rfl, by simp [tot_nil] <;> go_num, by simp [tot_nil] <;> omega⟩
              case round =>
                obtain ⟨k, hk, rfl, rfl, hb3⟩ := hrel
                by_cases hlt : k < ss3.length
                · obtain ⟨b, off, s, rfl, hs, hc, hsz⟩ := h3.at hlt
                  have HT := hide (tot_take hs)
                  unfold maxLen at hsz
                  clear hs
                  generalize tot (ss3.take k) = tk at *
                  go_wp2
                  · go_ret
                    exact ⟨Said.no, rfl⟩
                  · go_ret
                    exact ⟨Said.no, rfl⟩
                  · go_round
                    case rel => exact ⟨k + 1, by omega, by go_num, by rw [unhide HT]; go_num, by rw [unhide HT]; omega⟩
                    case measure => simp [intOf]; omega
                · have hkk : k = ss3.length := by omega
                  subst hkk
                  rw [List.take_length] at hb3 ⊢
                  clear hlt hk
                  go_wp2
                  go_ret
                  exact ⟨Said.yes (by omega), rfl⟩

theorem bytes28 {w : World} {a0 : Option Addr} {ss0 : List ByteArray} {cap0 : Nat} {a1 : Option Addr} {ss1 : List ByteArray} {cap1 : Nat} {a2 : Option Addr} {ss2 : List ByteArray} {cap2 : Nat} {a3 : Option Addr} {ss3 : List ByteArray} {cap3 : Nat} (h0 : StrsAt w a0 ss0) (h1 : StrsAt w a1 ss1) (h2 : StrsAt w a2 ss2) (h3 : StrsAt w a3 ss3) (l0 : ss0.length ≤ maxLen) (l1 : ss1.length ≤ maxLen) (l2 : ss2.length ≤ maxLen) (l3 : ss3.length ≤ maxLen) :
    Calls Efeg.prog 28 #[.slice a0 ss0.length cap0, .slice a1 ss1.length cap1, .slice a2 ss2.length cap2, .slice a3 ss3.length cap3] w fun e w' => Said ((ss0.length + tot ss0) + (ss1.length + tot ss1) + (ss2.length + tot ss2) + (ss3.length + tot ss3) ≤ 1048576) e ∧ w = w' := by
  unfold maxLen at l0 l1 l2 l3
  by_cases hl : (ss0.length : Int) ≤ 1048576
  case neg =>
    go_enter Efeg.func28, Efeg.ntmps28
    go_wp2
    go_ret
    exact ⟨Said.no, rfl⟩
  go_enter Efeg.func28, Efeg.ntmps28
  go_wp2
  go_loop [9, 10] (fun t i => ∃ k : Nat, k ≤ ss0.length ∧ i = .int .i64 k ∧ t = .int .i64 (((ss0.length + tot (ss0.take k)) : Nat) : Int) ∧ (ss0.length + tot (ss0.take k)) ≤ 1048576) (fun _ i => ss0.length - (intOf i).toNat)
  case atStart => exact ⟨0, Nat.zero_le _, rfl, by simp [tot_nil] <;> go_num, by simp [tot_nil] <;> omega⟩
  case round =>
    obtain ⟨k, hk, rfl, rfl, hb0⟩ := hrel
    by_cases hlt : k < ss0.length
    · obtain ⟨b, off, s, rfl, hs, hc, hsz⟩ := h0.at hlt
      have HT := hide (tot_take hs)
      unfold maxLen at hsz
      clear hs
      generalize tot (ss0.take k) = tk at *
      go_wp2
      · go_ret
        exact ⟨Said.no, rfl⟩
      · go_ret
        exact ⟨Said.no, rfl⟩
      · go_round
        case rel => exact ⟨k + 1, by omega, by go_num, by rw [unhide HT]; go_num, by rw [unhide HT]; omega⟩
        case measure => simp [intOf]; omega
    · have hkk : k = ss0.length := by omega
      subst hkk
      rw [List.take_length] at hb0 ⊢
      clear hlt hk
      go_wp2
      · go_ret
        exact ⟨Said.no, rfl⟩
      · go_ret
        exact ⟨Said.no, rfl⟩
      go_loop [9, 11] (fun t i => ∃ k : Nat, k ≤ ss1.length ∧ i = .int .i64 k ∧ t = .int .i64 (((ss0.length + tot ss0) + (ss1.length + tot (ss1.take k)) : Nat) : Int) ∧ (ss0.length + tot ss0) + (ss1.length + tot (ss1.take k)) ≤ 1048576) (fun _ i => ss1.length - (intOf i).toNat)
      case atStart => exact ⟨0, Nat.zero_le _, rfl, by simp [tot_nil] <;> go_num, by simp [tot_nil] <;> omega⟩
      case round =>
        obtain ⟨k, hk, rfl, rfl, hb1⟩ := hrel
        by_cases hlt : k < ss1.length
        · obtain ⟨b, off, s, rfl, hs, hc, hsz⟩ := h1.at hlt
          have HT := hide (tot_take hs)
          unfold maxLen at hsz
          clear hs
          generalize tot (ss1.take k) = tk at *
          go_wp2
          · go_ret
            exact ⟨Said.no, rfl⟩
          · go_ret
            exact ⟨Said.no, rfl⟩
          · go_round
            case rel => exact ⟨k + 1, by omega, by go_num, by rw [unhide HT]; go_num, by rw [unhide HT]; omega⟩
            case measure => simp [intOf]; omega
        · have hkk : k = ss1.length := by omega
          subst hkk
          rw [List.take_length] at hb1 ⊢
          clear hlt hk
          go_wp2
          · go_ret
            exact ⟨Said.no, rfl⟩
          · go_ret
            exact ⟨Said.no, rfl⟩
          go_loop [9, 12] (fun t i => ∃ k : Nat, k ≤ ss2.length ∧ i = .int .i64 k ∧ t = .int .i64 (((ss0.length + tot ss0) + (ss1.length + tot ss1) + (ss2.length + tot (ss2.take k)) : Nat) : Int) ∧ (ss0.length + tot ss0) + (ss1.length + tot ss1) + (ss2.length + tot (ss2.take k)) ≤ 1048576) (fun _ i => ss2.length - (intOf i).toNat)
          case atStart => exact ⟨0, Nat.zero_le _, rfl, by simp [tot_nil] <;> go_num, by simp [tot_nil] <;> omega⟩
          case round =>
            obtain ⟨k, hk, rfl, rfl, hb2⟩ := hrel
            by_cases hlt : k < ss2.length
            · obtain ⟨b, off, s, rfl, hs, hc, hsz⟩ := h2.at hlt
              have HT := hide (tot_take hs)
              unfold maxLen at hsz
              clear hs
              generalize tot (ss2.take k) = tk at *
              go_wp2
              · go_ret
                exact ⟨Said.no, rfl⟩
              · go_ret
                exact ⟨Said.no, rfl⟩
              · go_round
                case rel => exact ⟨k + 1, by omega, by go_num, by rw [unhide HT]; go_num, by rw [unhide HT]; omega⟩
                case measure => simp [intOf]; omega
            · have hkk : k = ss2.length := by omega
              subst hkk
              rw [List.take_length] at hb2 ⊢
              clear hlt hk
              go_wp2
              · go_ret
                exact ⟨Said.no, rfl⟩
              · go_ret
                exact ⟨Said.no, rfl⟩
              go_loop [9, 13] (fun t i => ∃ k : Nat, k ≤ ss3.length ∧ i = .int .i64 k ∧ t = .int .i64 (((ss0.length + tot ss0) + (ss1.length + tot ss1) + (ss2.length + tot ss2) + (ss3.length + tot (ss3.take k)) : Nat) : Int) ∧ (ss0.length + tot ss0) + (ss1.length + tot ss1) + (ss2.length + tot ss2) + (ss3.length + tot (ss3.take k)) ≤ 1048576) (fun _ i => ss3.length - (intOf i).toNat)
              case atStart => exact ⟨0, Nat.zero_le _, rfl, by simp [tot_nil] <;> go_num, by simp [tot_nil] <;> omega⟩
              case round =>
                obtain ⟨k, hk, rfl, rfl, hb3⟩ := hrel
                by_cases hlt : k < ss3.length
                · obtain ⟨b, off, s, rfl, hs, hc, hsz⟩ := h3.at hlt
                  have HT := hide (tot_take hs)
                  unfold maxLen at hsz
                  clear hs
                  generalize tot (ss3.take k) = tk at *
                  go_wp2
                  · go_ret
                    exact ⟨Said.no, rfl⟩
                  · go_ret
                    exact ⟨Said.no, rfl⟩
                  · go_round
                    case rel => exact ⟨k + 1, by omega, by go_num, by rw [unhide HT]; go_num, by rw [unhide HT]; omega⟩
                    case measure => simp [intOf]; omega
                · have hkk : k = ss3.length := by omega
                  subst hkk
                  rw [List.take_length] at hb3 ⊢
                  clear hlt hk
                  go_wp2
                  go_ret
                  exact ⟨Said.yes (by omega), rfl⟩


end Go.Proofs.Yoefew
