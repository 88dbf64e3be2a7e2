import Derived.Test.YoefewBase
import Derived.Deep.QuietTactic
import Derived.BigQuiet
namespace Go.Proofs.Yoefew
open Go.RowKit Go.Maps

theorem new_calls (w : World) : Calls Efeg.prog 13 #[] w fun e w' => ∃ b mb, e = .returned (.pointer (some ⟨b, 0, none⟩)) ∧ NewTab w w' b mb none false := by
  have hmm := @run_makeMap Efeg.prog
  go_enter Efeg.func13, Efeg.ntmps13
  go_wp2
  go_ret
  exact ⟨_, _, rfl, newTab_mk w none false⟩

theorem fork_calls (par : Option Addr) (blk : Bool) (w : World) : Calls Efeg.prog 26 #[.pointer par, .bool blk] w fun e w' => ∃ b mb, e = .returned (.pointer (some ⟨b, 0, none⟩)) ∧ NewTab w w' b mb par blk := by
  have hmm := @run_makeMap Efeg.prog
  go_enter Efeg.func26, Efeg.ntmps26
  go_wp2
  go_ret
  exact ⟨_, _, rfl, newTab_mk w par blk⟩

section
variable {w : World} {b mb : Nat} {par : Option Addr} {fr bu : Value} {blk : Bool} {nd md : Int}
theorem max_calls (h : TabAt w b par blk mb nd md fr bu) :
    Calls Efeg.prog 15 #[.pointer (some ⟨b, 0, none⟩)] w fun e w' => e = .returned (.int .i64 md) ∧ w = w' := by
  have c : w.cell? ⟨b, 4, none⟩ = some (.int .i64 md) := by unfold TabAt at h; simp [World.cell?, h]
  go_enter Efeg.func15, Efeg.ntmps15
  go_wp2
  go_ret
  exact ⟨rfl, rfl⟩
theorem free_calls (h : TabAt w b par blk mb nd md fr bu) :
    Calls Efeg.prog 16 #[.pointer (some ⟨b, 0, none⟩)] w fun e w' => e = .returned fr ∧ w = w' := by
  have c : w.cell? ⟨b, 5, none⟩ = some fr := by unfold TabAt at h; simp [World.cell?, h]
  go_enter Efeg.func16, Efeg.ntmps16
  go_wp2
  go_ret
  exact ⟨rfl, rfl⟩
theorem builtin_root (h : TabAt w b none blk mb nd md fr bu) :
    Calls Efeg.prog 17 #[.pointer (some ⟨b, 0, none⟩)] w fun e w' => e = .returned bu ∧ w = w' := by
  have c : w.cell? ⟨b, 6, none⟩ = some bu := by unfold TabAt at h; simp [World.cell?, h]
  have c0 : w.cell? ⟨b, 0, none⟩ = some (.pointer none) := by unfold TabAt at h; simp [World.cell?, h]
  go_enter Efeg.func17, Efeg.ntmps17
  go_wp2_with fail
  go_ret
  exact ⟨rfl, rfl⟩
theorem builtin_up {p : Addr} {v : Value} (h : TabAt w b (some p) blk mb nd md fr bu) (hc : Calls Efeg.prog 17 #[.pointer (some p)] w fun e w' => e = .returned v ∧ w = w') :
    Calls Efeg.prog 17 #[.pointer (some ⟨b, 0, none⟩)] w fun e w' => e = .returned v ∧ w = w' := by
  have c0 : w.cell? ⟨b, 0, none⟩ = some (.pointer (some p)) := by unfold TabAt at h; simp [World.cell?, h]
  have HC : Hid (Calls Efeg.prog 17 #[.pointer (some p)] w fun e w' => e = .returned v ∧ w = w') := hc
  clear hc
  go_enter Efeg.func17, Efeg.ntmps17
  go_wp2_with fail
  refine HC.out.mono ?_
  rintro e w' ⟨rfl, rfl⟩
  go_wp2_with fail
  go_ret
  exact ⟨rfl, rfl⟩
theorem parent_false (h : TabAt w b par blk mb nd md fr bu) :
    Calls Efeg.prog 14 #[.pointer (some ⟨b, 0, none⟩), .bool false] w fun e w' => e = .returned (.pointer par) ∧ w = w' := by
  have c0 : w.cell? ⟨b, 0, none⟩ = some (.pointer par) := by unfold TabAt at h; simp [World.cell?, h]
  go_enter Efeg.func14, Efeg.ntmps14
  go_wp2_with fail
  go_ret
  exact ⟨rfl, rfl⟩
theorem parent_nb (h : TabAt w b par false mb nd md fr bu) :
    Calls Efeg.prog 14 #[.pointer (some ⟨b, 0, none⟩), .bool true] w fun e w' => e = .returned (.pointer par) ∧ w = w' := by
  have c0 : w.cell? ⟨b, 0, none⟩ = some (.pointer par) := by unfold TabAt at h; simp [World.cell?, h]
  have c1 : w.cell? ⟨b, 1, none⟩ = some (.bool false) := by unfold TabAt at h; simp [World.cell?, h]
  go_enter Efeg.func14, Efeg.ntmps14
  go_wp2_with fail
  go_ret
  exact ⟨rfl, rfl⟩
theorem parent_up {p : Addr} {v : Value} (h : TabAt w b (some p) true mb nd md fr bu) (hc : Calls Efeg.prog 14 #[.pointer (some p), .bool true] w fun e w' => e = .returned v ∧ w = w') :
    Calls Efeg.prog 14 #[.pointer (some ⟨b, 0, none⟩), .bool true] w fun e w' => e = .returned v ∧ w = w' := by
  have c0 : w.cell? ⟨b, 0, none⟩ = some (.pointer (some p)) := by unfold TabAt at h; simp [World.cell?, h]
  have c1 : w.cell? ⟨b, 1, none⟩ = some (.bool true) := by unfold TabAt at h; simp [World.cell?, h]
  have HC : Hid (Calls Efeg.prog 14 #[.pointer (some p), .bool true] w fun e w' => e = .returned v ∧ w = w') := hc
  clear hc
  go_enter Efeg.func14, Efeg.ntmps14
  go_wp2_with fail
  refine HC.out.mono ?_
  rintro e w' ⟨rfl, rfl⟩
  go_wp2_with fail
  go_ret
  exact ⟨rfl, rfl⟩
theorem next_nb (h : TabAt w b par false mb nd md fr bu) :
    Calls Efeg.prog 35 #[.pointer (some ⟨b, 0, none⟩)] w fun e w' => e = .returned (.int .i64 nd) ∧ w = w' := by
  have c3 : w.cell? ⟨b, 3, none⟩ = some (.int .i64 nd) := by unfold TabAt at h; simp [World.cell?, h]
  have c1 : w.cell? ⟨b, 1, none⟩ = some (.bool false) := by unfold TabAt at h; simp [World.cell?, h]
  go_enter Efeg.func35, Efeg.ntmps35
  go_wp2_with fail
  go_ret
  exact ⟨rfl, rfl⟩
theorem next_up {p : Addr} {i : Int} (h : TabAt w b (some p) true mb nd md fr bu) (hc : ∀ n, Calls Efeg.prog 35 #[.pointer (some p)] (w.drewN n) fun e w' => e = .returned (.int .i64 i) ∧ ∃ m, w' = w.drewN m)
    (h0 : 0 ≤ i) (h1 : 0 ≤ nd) (h2 : i + nd ≤ 1000000000) :
    Calls Efeg.prog 35 #[.pointer (some ⟨b, 0, none⟩)] w fun e w' => e = .returned (.int .i64 (i + nd)) ∧ ∃ m, w' = w.drewN m := by
  have c0 : w.cell? ⟨b, 0, none⟩ = some (.pointer (some p)) := by unfold TabAt at h; simp [World.cell?, h]
  have c3 : w.cell? ⟨b, 3, none⟩ = some (.int .i64 nd) := by unfold TabAt at h; simp [World.cell?, h]
  have c1 : w.cell? ⟨b, 1, none⟩ = some (.bool true) := by unfold TabAt at h; simp [World.cell?, h]
  have HC : Hid (∀ n, Calls Efeg.prog 35 #[.pointer (some p)] (w.drewN n) fun e w' => e = .returned (.int .i64 i) ∧ ∃ m, w' = w.drewN m) := hc
  clear hc
  go_enter Efeg.func35, Efeg.ntmps35
  go_wp2_with fail
  go_quiet ((go_at_call 35; exact HC.out _))
  go_wp2_with fail
  go_ret
  exact ⟨rfl, _, rfl⟩
end
end Go.Proofs.Yoefew
