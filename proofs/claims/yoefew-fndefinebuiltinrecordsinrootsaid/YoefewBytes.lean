import Derived.Test.YoefewStrs
namespace Go.Proofs.Yoefew
open Go.RowKit Go.Maps

/-- A bool comes back; if it is true, 'r' holds. -/
def Said (r : Prop) (e : Ending) : Prop := ∃ b : Bool, e = .returned (.bool b) ∧ (b = true → r)
theorem Said.no {r : Prop} : Said r (.returned (.bool false)) := ⟨false, rfl, by simp⟩
theorem Said.yes {r : Prop} (h : r) : Said r (.returned (.bool true)) := ⟨true, rfl, fun _ => h⟩

theorem bytes20 {w : World} {a0 : Option Addr} {ss0 : List ByteArray} {cap0 : Nat} (h0 : StrsAt w a0 ss0) (l0 : ss0.length ≤ maxLen) (x : ByteArray) (lx : x.size ≤ maxLen) :
    Calls Efeg.prog 20 #[.slice a0 ss0.length cap0, .string x] w fun e w' => Said ((ss0.length + tot ss0) + x.size ≤ 1048576) e ∧ w = w' := by
  unfold maxLen at l0 lx
  by_cases hl : (ss0.length : Int) ≤ 1048576
  case neg =>
    go_enter Efeg.func20, Efeg.ntmps20
    go_wp2
    go_ret
    exact ⟨Said.no, rfl⟩
  go_enter Efeg.func20, Efeg.ntmps20
  go_wp2
  go_loop [5, 6] (fun t i => ∃ k : Nat, k ≤ ss0.length ∧ i = .int .i64 k ∧ t = .int .i64 (((ss0.length + tot (ss0.take k)) : Nat) : Int) ∧ (ss0.length + tot (ss0.take k)) ≤ 1048576) (fun _ i => ss0.length - (intOf i).toNat)
  case atStart => exact ⟨0, Nat.zero_le _, rfl, by simp [tot_nil] <;> go_num, by simp [tot_nil] <;> omega⟩
  case round =>
    obtain ⟨k, hk, rfl, rfl, hb0⟩ := hrel
    by_cases hlt : k < ss0.length
    · obtain ⟨b, off, s, rfl, hs, hc, hsz⟩ := h0.at hlt
      have HT := hide (tot_take hs)
      unfold maxLen at hsz
      clear hs
      generalize tot (ss0.take k) = tk at *
      go_wp2
      · go_ret
        exact ⟨Said.no, rfl⟩
      · go_ret
        exact ⟨Said.no, rfl⟩
      · go_round
        case rel => exact ⟨k + 1, by omega, by go_num, by rw [unhide HT]; go_num, by rw [unhide HT]; omega⟩
        case measure => simp [intOf]; omega
    · have hkk : k = ss0.length := by omega
      subst hkk
      rw [List.take_length] at hb0 ⊢
      clear hlt hk
      go_wp2
      · go_ret
        exact ⟨Said.no, rfl⟩
      · go_ret
        exact ⟨Said.no, rfl⟩
      · go_ret
        exact ⟨Said.yes (by omega), rfl⟩

theorem bytes23 {w : World} {a0 : Option Addr} {ss0 : List ByteArray} {cap0 : Nat} (h0 : StrsAt w a0 ss0) (l0 : ss0.length ≤ maxLen) (x : ByteArray) (lx : x.size ≤ maxLen) :
    Calls Efeg.prog 23 #[.slice a0 ss0.length cap0, .string x] w fun e w' => Said ((ss0.length + tot ss0) + x.size ≤ 1048576) e ∧ w = w' := by
  unfold maxLen at l0 lx
  by_cases hl : (ss0.length : Int) ≤ 1048576
  case neg =>
    go_enter Efeg.func23, Efeg.ntmps23
    go_wp2
    go_ret
    exact ⟨Said.no, rfl⟩
  go_enter Efeg.func23, Efeg.ntmps23
  go_wp2
  go_loop [5, 6] (fun t i => ∃ k : Nat, k ≤ ss0.length ∧ i = .int .i64 k ∧ t = .int .i64 (((ss0.length + tot (ss0.take k)) : Nat) : Int) ∧ (ss0.length + tot (ss0.take k)) ≤ 1048576) (fun _ i => ss0.length - (intOf i).toNat)
  case atStart => exact ⟨0, Nat.zero_le _, rfl, by simp [tot_nil] <;> go_num, by simp [tot_nil] <;> omega⟩
  case round =>
    obtain ⟨k, hk, rfl, rfl, hb0⟩ := hrel
    by_cases hlt : k < ss0.length
    · obtain ⟨b, off, s, rfl, hs, hc, hsz⟩ := h0.at hlt
      have HT := hide (tot_take hs)
      unfold maxLen at hsz
      clear hs
      generalize tot (ss0.take k) = tk at *
      go_wp2
      · go_ret
        exact ⟨Said.no, rfl⟩
      · go_ret
        exact ⟨Said.no, rfl⟩
      · go_round
        case rel => exact ⟨k + 1, by omega, by go_num, by rw [unhide HT]; go_num, by rw [unhide HT]; omega⟩
        case measure => simp [intOf]; omega
    · have hkk : k = ss0.length := by omega
      subst hkk
      rw [List.take_length] at hb0 ⊢
      clear hlt hk
      go_wp2
      · go_ret
        exact ⟨Said.no, rfl⟩
      · go_ret
        exact ⟨Said.no, rfl⟩
      · go_ret
        exact ⟨Said.yes (by omega), rfl⟩

theorem bytes32 {w : World} {a0 : Option Addr} {ss0 : List ByteArray} {cap0 : Nat} {a1 : Option Addr} {ss1 : List ByteArray} {cap1 : Nat} (h0 : StrsAt w a0 ss0) (h1 : StrsAt w a1 ss1) (l0 : ss0.length ≤ maxLen) (l1 : ss1.length ≤ maxLen) :
    Calls Efeg.prog 32 #[.slice a0 ss0.length cap0, .slice a1 ss1.length cap1] w fun e w' => Said ((ss0.length + tot ss0) + (ss1.length + tot ss1) ≤ 1048576) e ∧ w = w' := by
  unfold maxLen at l0 l1
  by_cases hl : (ss0.length : Int) ≤ 1048576
  case neg =>
    go_enter Efeg.func32, Efeg.ntmps32
    go_wp2
    go_ret
    exact ⟨Said.no, rfl⟩
  go_enter Efeg.func32, Efeg.ntmps32
  go_wp2
  go_loop [5, 6] (fun t i => ∃ k : Nat, k ≤ ss0.length ∧ i = .int .i64 k ∧ t = .int .i64 (((ss0.length + tot (ss0.take k)) : Nat) : Int) ∧ (ss0.length + tot (ss0.take k)) ≤ 1048576) (fun _ i => ss0.length - (intOf i).toNat)
  case atStart => exact ⟨0, Nat.zero_le _, rfl, by simp [tot_nil] <;> go_num, by simp [tot_nil] <;> omega⟩
  case round =>
    obtain ⟨k, hk, rfl, rfl, hb0⟩ := hrel
    by_cases hlt : k < ss0.length
    · obtain ⟨b, off, s, rfl, hs, hc, hsz⟩ := h0.at hlt
      have HT := hide (tot_take hs)
      unfold maxLen at hsz
      clear hs
      generalize tot (ss0.take k) = tk at *
      go_wp2
      · go_ret
        exact ⟨Said.no, rfl⟩
      · go_ret
        exact ⟨Said.no, rfl⟩
      · go_round
        case rel => exact ⟨k + 1, by omega, by go_num, by rw [unhide HT]; go_num, by rw [unhide HT]; omega⟩
        case measure => simp [intOf]; omega
    · have hkk : k = ss0.length := by omega
      subst hkk
      rw [List.take_length] at hb0 ⊢
      clear hlt hk
      go_wp2
      · go_ret
        exact ⟨Said.no, rfl⟩
      · go_ret
        exact ⟨Said.no, rfl⟩
      go_loop [5, 7] (fun t i => ∃ k : Nat, k ≤ ss1.length ∧ i = .int .i64 k ∧ t = .int .i64 (((ss0.length + tot ss0) + (ss1.length + tot (ss1.take k)) : Nat) : Int) ∧ (ss0.length + tot ss0) + (ss1.length + tot (ss1.take k)) ≤ 1048576) (fun _ i => ss1.length - (intOf i).toNat)
      case atStart => exact ⟨0, Nat.zero_le _, rfl, by simp [tot_nil] <;> go_num, by simp [tot_nil] <;> omega⟩
      case round =>
        obtain ⟨k, hk, rfl, rfl, hb1⟩ := hrel
        by_cases hlt : k < ss1.length
        · obtain ⟨b, off, s, rfl, hs, hc, hsz⟩ := h1.at hlt
          have HT := hide (tot_take hs)
          unfold maxLen at hsz
          clear hs
          generalize tot (ss1.take k) = tk at *
          go_wp2
          · go_ret
            exact ⟨Said.no, rfl⟩
          · go_ret
            exact ⟨Said.no, rfl⟩
          · go_round
            case rel => exact ⟨k + 1, by omega, by go_num, by rw [unhide HT]; go_num, by rw [unhide HT]; omega⟩
            case measure => simp [intOf]; omega
        · have hkk : k = ss1.length := by omega
          subst hkk
          rw [List.take_length] at hb1 ⊢
          clear hlt hk
          go_wp2
          go_ret
          exact ⟨Said.yes (by omega), rfl⟩

theorem bytes33 {w : World} {a0 : Option Addr} {ss0 : List ByteArray} {cap0 : Nat} {a1 : Option Addr} {ss1 : List ByteArray} {cap1 : Nat} (h0 : StrsAt w a0 ss0) (h1 : StrsAt w a1 ss1) (l0 : ss0.length ≤ maxLen) (l1 : ss1.length ≤ maxLen) (x : ByteArray) (lx : x.size ≤ maxLen) (q : Bool) :
    Calls Efeg.prog 33 #[.slice a0 ss0.length cap0, .slice a1 ss1.length cap1, .string x, .bool q] w fun e w' => Said ((ss0.length + tot ss0) + (ss1.length + tot ss1) + x.size ≤ 1048576) e ∧ w = w' := by
  unfold maxLen at l0 l1 lx
  by_cases hl : (ss0.length : Int) ≤ 1048576
  case neg =>
    go_enter Efeg.func33, Efeg.ntmps33
    go_wp2
    go_ret
    exact ⟨Said.no, rfl⟩
  go_enter Efeg.func33, Efeg.ntmps33
  go_wp2
  go_loop [9, 10] (fun t i => ∃ k : Nat, k ≤ ss0.length ∧ i = .int .i64 k ∧ t = .int .i64 (((ss0.length + tot (ss0.take k)) : Nat) : Int) ∧ (ss0.length + tot (ss0.take k)) ≤ 1048576) (fun _ i => ss0.length - (intOf i).toNat)
  case atStart => exact ⟨0, Nat.zero_le _, rfl, by simp [tot_nil] <;> go_num, by simp [tot_nil] <;> omega⟩
  case round =>
    obtain ⟨k, hk, rfl, rfl, hb0⟩ := hrel
    by_cases hlt : k < ss0.length
    · obtain ⟨b, off, s, rfl, hs, hc, hsz⟩ := h0.at hlt
      have HT := hide (tot_take hs)
      unfold maxLen at hsz
      clear hs
      generalize tot (ss0.take k) = tk at *
      go_wp2
      · go_ret
        exact ⟨Said.no, rfl⟩
      · go_ret
        exact ⟨Said.no, rfl⟩
      · go_round
        case rel => exact ⟨k + 1, by omega, by go_num, by rw [unhide HT]; go_num, by rw [unhide HT]; omega⟩
        case measure => simp [intOf]; omega
    · have hkk : k = ss0.length := by omega
      subst hkk
      rw [List.take_length] at hb0 ⊢
      clear hlt hk
      go_wp2
      · go_ret
        exact ⟨Said.no, rfl⟩
      · go_ret
        exact ⟨Said.no, rfl⟩
      go_loop [9, 11] (fun t i => ∃ k : Nat, k ≤ ss1.length ∧ i = .int .i64 k ∧ t = .int .i64 (((ss0.length + tot ss0) + (ss1.length + tot (ss1.take k)) : Nat) : Int) ∧ (ss0.length + tot ss0) + (ss1.length + tot (ss1.take k)) ≤ 1048576) (fun _ i => ss1.length - (intOf i).toNat)
      case atStart => exact ⟨0, Nat.zero_le _, rfl, by simp [tot_nil] <;> go_num, by simp [tot_nil] <;> omega⟩
      case round =>
        obtain ⟨k, hk, rfl, rfl, hb1⟩ := hrel
        by_cases hlt : k < ss1.length
        · obtain ⟨b, off, s, rfl, hs, hc, hsz⟩ := h1.at hlt
          have HT := hide (tot_take hs)
          unfold maxLen at hsz
          clear hs
          generalize tot (ss1.take k) = tk at *
          go_wp2
          · go_ret
            exact ⟨Said.no, rfl⟩
          · go_ret
            exact ⟨Said.no, rfl⟩
          · go_round
            case rel => exact ⟨k + 1, by omega, by go_num, by rw [unhide HT]; go_num, by rw [unhide HT]; omega⟩
            case measure => simp [intOf]; omega
        · have hkk : k = ss1.length := by omega
          subst hkk
          rw [List.take_length] at hb1 ⊢
          clear hlt hk
          go_wp2
          · go_ret
            exact ⟨Said.no, rfl⟩
          · go_ret
            exact ⟨Said.no, rfl⟩
          · go_ret
            exact ⟨Said.yes (by omega), rfl⟩


end Go.Proofs.Yoefew
