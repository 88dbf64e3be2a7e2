import Derived.Test.YoefewBase
namespace Go.Proofs.Yoefew
open Go.RowKit Go.Maps

/-- A slice of strings: its elements are 'ss'. -/
def StrsAt (w : World) (a : Option Addr) (ss : List ByteArray) : Prop :=
  (∀ (k : Nat) (s : ByteArray), ss[k]? = some s → s.size ≤ maxLen) ∧ (ss = [] ∨ ∃ b off, a = some ⟨b, off, none⟩ ∧ b < w.heap.size ∧ ∀ (k : Nat) (s : ByteArray), ss[k]? = some s → w.cell? ⟨b, off + k, none⟩ = some (.string s))

theorem StrsAt.below {B : Nat} {w w' : World} {a : Option Addr} {ss : List ByteArray} (h : StrsAt w a ss) (hb : Below B w w') (hB : w.heap.size ≤ B) : StrsAt w' a ss := by
  obtain ⟨h1, h2⟩ := h
  refine ⟨h1, ?_⟩
  rcases h2 with h2 | ⟨b, off, e, hlt, h2⟩
  · exact .inl h2
  · refine .inr ⟨b, off, e, Nat.lt_of_lt_of_le hlt hb.size, fun k s hk => ?_⟩
    rw [hb.cell (by show b < B; omega)]
    exact h2 k s hk

theorem StrsAt.at {w : World} {a : Option Addr} {ss : List ByteArray} (h : StrsAt w a ss) {k : Nat} (hk : k < ss.length) :
    ∃ b off s, a = some ⟨b, off, none⟩ ∧ ss[k]? = some s ∧ w.cell? ⟨b, off + k, none⟩ = some (.string s) ∧ s.size ≤ maxLen := by
  obtain ⟨h1, h2⟩ := h
  have e : ss[k]? = some ss[k] := by simp [hk]
  rcases h2 with h2 | ⟨b, off, ea, _, h2⟩
  · subst h2; simp at hk
  · exact ⟨b, off, _, ea, e, h2 _ _ e, h1 _ _ e⟩

/-- One element, in every later world. -/
theorem StrsAt.row {w : World} {a : Option Addr} {ss : List ByteArray} (h : StrsAt w a ss) {k : Nat} (hk : k < ss.length) :
    ∃ b off s, a = some ⟨b, off, none⟩ ∧ ss[k]? = some s ∧ s.size ≤ maxLen ∧ ∀ wx, Below w.heap.size w wx → wx.cell? ⟨b, off + k, none⟩ = some (.string s) := by
  obtain ⟨h1, h2⟩ := h
  have e : ss[k]? = some ss[k] := by simp [hk]
  rcases h2 with h2 | ⟨b, off, ea, hlt, h2⟩
  · subst h2; simp at hk
  · exact ⟨b, off, _, ea, e, h1 _ _ e, fun wx hb => by rw [hb.cell (by exact hlt)]; exact h2 _ _ e⟩

/-- The bytes of all strings together. -/
def tot (ss : List ByteArray) : Nat := (ss.map ByteArray.size).sum

theorem tot_nil : tot [] = 0 := rfl

theorem tot_take {ss : List ByteArray} {k : Nat} {s : ByteArray} (h : ss[k]? = some s) : tot (ss.take (k + 1)) = tot (ss.take k) + s.size := by
  unfold tot
  have hk : k < ss.length := (List.getElem?_eq_some_iff.1 h).1
  have hs : ss[k] = s := (List.getElem?_eq_some_iff.1 h).2
  rw [List.take_succ_eq_append_getElem hk, hs]
  simp

theorem tot_take_le (ss : List ByteArray) (k : Nat) : tot (ss.take k) ≤ tot ss := by
  have : tot ss = tot (ss.take k) + tot (ss.drop k) := by
    unfold tot
    rw [← List.sum_append, ← List.map_append, List.take_append_drop]
  omega

theorem strBytes_calls {w : World} {a : Option Addr} {ss : List ByteArray} {cap : Nat} (h : StrsAt w a ss) (h1 : ss.length ≤ 10000000) (h2 : tot ss ≤ 10000000) :
    Calls Efeg.prog 21 #[.slice a ss.length cap] w fun e w' => e = .returned (.int .i64 (8 * ss.length + tot ss : Nat)) ∧ w = w' := by
  go_enter Efeg.func21, Efeg.ntmps21
  go_wp2
  go_loop [3, 4] (fun t i => ∃ k : Nat, k ≤ ss.length ∧ i = .int .i64 k ∧ t = .int .i64 ((8 * k + tot (ss.take k) : Nat) : Int)) (fun _ i => ss.length - (intOf i).toNat)
  case atStart => exact ⟨0, Nat.zero_le _, rfl, rfl⟩
  case round =>
    obtain ⟨k, hk, rfl, rfl⟩ := hrel
    by_cases hlt : k < ss.length
    · obtain ⟨b, off, s, rfl, hs, hc, hsz⟩ := h.at hlt
      have htk := tot_take_le ss k
      have HT := hide (tot_take hs)
      have htk1 := tot_take_le ss (k + 1)
      rw [tot_take hs] at htk1
      clear hs
      generalize tot (ss.take k) = tk at *
      go_wp2
      go_round
      case rel => exact ⟨k + 1, by omega, by go_num, by rw [unhide HT]; go_num⟩
      case measure => simp [intOf]; omega
    · go_wp2
      go_ret
      have : k = ss.length := by omega
      subst this
      exact ⟨by simp, rfl⟩

theorem toList_ne {s x : ByteArray} (h : s ≠ x) : ¬ s.toList = x.toList := by
  intro e
  rw [ByteArray.toList_eq, ByteArray.toList_eq] at e
  apply h
  cases s; cases x
  simp at e
  rw [e]

theorem toList_beq {s x : ByteArray} (h : s ≠ x) : (s.toList == x.toList) = false := by
  simpa using toList_ne h

theorem data_ne {s x : ByteArray} (h : s ≠ x) : ¬ s.data.toList = x.data.toList := by
  have := toList_ne h
  rwa [ByteArray.toList_eq, ByteArray.toList_eq] at this

/-- The last place below k at which x stands; -1: none. -/
def lastTo (ss : List ByteArray) (x : ByteArray) : Nat → Int
  | 0 => -1
  | k + 1 => if ss[k]? = some x then k else lastTo ss x k

def lastIdx (ss : List ByteArray) (x : ByteArray) : Int := lastTo ss x ss.length

theorem lastTo_ge (ss : List ByteArray) (x : ByteArray) : ∀ k, -1 ≤ lastTo ss x k
  | 0 => by simp [lastTo]
  | k + 1 => by
    unfold lastTo
    split
    · omega
    · exact lastTo_ge ss x k

theorem lastTo_lt (ss : List ByteArray) (x : ByteArray) : ∀ k, lastTo ss x k < k
  | 0 => by simp [lastTo]
  | k + 1 => by
    unfold lastTo
    split
    · omega
    · have := lastTo_lt ss x k
      omega

theorem lastIndex_calls {w : World} {a : Option Addr} {ss : List ByteArray} {cap : Nat} (h : StrsAt w a ss) (x : ByteArray) (h1 : ss.length ≤ 10000000) :
    Calls Efeg.prog 24 #[.slice a ss.length cap, .string x] w fun e w' => e = .returned (.int .i64 (lastIdx ss x)) ∧ w = w' := by
  go_enter Efeg.func24, Efeg.ntmps24
  go_wp2
  go_loop [5] (fun j => ∃ k : Nat, k ≤ ss.length ∧ j = .int .i64 ((k : Int) - 1) ∧ lastIdx ss x = lastTo ss x k) (fun j => (intOf j + 1).toNat)
  case atStart => exact ⟨ss.length, Nat.le_refl _, rfl, rfl⟩
  case round =>
    obtain ⟨k, hk, rfl, hl⟩ := hrel
    cases k with
    | zero =>
      have HL := hide hl
      clear hl
      go_wp2
      go_ret
      exact ⟨by rw [unhide HL]; rfl, rfl⟩
    | succ k =>
      obtain ⟨b, off, s, rfl, hs, hc, hsz⟩ := h.at (k := k) (by omega)
      have ek : (((k + 1 : Nat) : Int) - 1) = (k : Int) := by omega
      rw [ek]
      unfold lastTo at hl
      rw [hs] at hl
      by_cases hx : s = x
      · subst hx
        have HL := hide hl
        clear hl hs
        go_wp2
        go_ret
        exact ⟨by rw [unhide HL]; simp, rfl⟩
      · rw [if_neg (by simpa using hx)] at hl
        have HL := hide hl
        have hne := toList_beq hx
        clear hl hs
        go_wp2
        go_round
        case rel => exact ⟨k, by omega, by go_num, unhide HL⟩
        case measure => simp [intOf]
end Go.Proofs.Yoefew
