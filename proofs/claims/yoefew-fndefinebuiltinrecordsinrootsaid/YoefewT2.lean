import Derived.Test.YoefewT1
namespace Go.Proofs.Yoefew
open Go.RowKit Go.Maps
section
variable {w : World} {b mb n : Nat} {par : Option Addr} {fr bu : Value} {blk : Bool} {nd md : Int} {f : List UInt8 → Option Nat} {s : ByteArray}

theorem resolve_root_none (h : TabAt w b none blk mb nd md fr bu) (hm : MapAt w mb n f) (hs : s.size ≤ maxLen) (hf : f s.data.toList = none) (recur : Bool) :
    Calls Efeg.prog 18 #[.pointer (some ⟨b, 0, none⟩), .string s, .bool recur] w fun e w' => e = .returned (.tuple #[.pointer none, .int .i64 0, .bool false]) ∧ w = w' := by
  have c0 : w.cell? ⟨b, 0, none⟩ = some (.pointer none) := by unfold TabAt at h; simp [World.cell?, h]
  have c2 : w.cell? ⟨b, 2, none⟩ = some (.map (some mb)) := by unfold TabAt at h; simp [World.cell?, h]
  have hl := hm.lookup hs
  rw [hf] at hl
  simp only [optPtr, Option.isSome_none] at hl
  clear hm hf
  go_enter Efeg.func18, Efeg.ntmps18
  go_wp2_with fail
  go_ret3
  exact ⟨rfl, rfl⟩

theorem resolve_hit {sb : Nat} {name sc : ByteArray} {idx : Int} {la : Bool} (h : TabAt w b par blk mb nd md fr bu) (hm : MapAt w mb n f) (hs : s.size ≤ maxLen) (hf : f s.data.toList = some sb) (hsy : SymAt w sb name sc idx la) (recur : Bool)
    (hu : ¬ sc.toList = [76, 79, 67, 65, 76] ∨ la = true ∨ recur = true) :
    Calls Efeg.prog 18 #[.pointer (some ⟨b, 0, none⟩), .string s, .bool recur] w fun e w' => e = .returned (.tuple #[.pointer (some ⟨sb, 0, none⟩), .int .i64 0, .bool true]) ∧ w = w' := by
  have c2 : w.cell? ⟨b, 2, none⟩ = some (.map (some mb)) := by unfold TabAt at h; simp [World.cell?, h]
  have s1 : w.cell? ⟨sb, 1, none⟩ = some (.string sc) := by unfold SymAt at hsy; simp [World.cell?, hsy]
  have s3 : w.cell? ⟨sb, 3, none⟩ = some (.bool la) := by unfold SymAt at hsy; simp [World.cell?, hsy]
  have hl := hm.lookup hs
  rw [hf] at hl
  simp only [optPtr, Option.isSome_some] at hl
  clear hm hf
  rcases hu with hu | hu | hu
  · go_enter Efeg.func18, Efeg.ntmps18
    go_wp2_with fail
    go_ret3
    exact ⟨rfl, rfl⟩
  · subst hu
    go_enter Efeg.func18, Efeg.ntmps18
    go_wp2_with fail
    all_goals (go_ret3; exact ⟨rfl, rfl⟩)
  · subst hu
    go_enter Efeg.func18, Efeg.ntmps18
    go_wp2_with fail
    all_goals (go_ret3; exact ⟨rfl, rfl⟩)
theorem resolve_hit_global {sb : Nat} {name : ByteArray} {idx : Int} {la : Bool} (h : TabAt w b par blk mb nd md fr bu) (hm : MapAt w mb n f) (hs : s.size ≤ maxLen) (hf : f s.data.toList = some sb) (hsy : SymAt w sb name ⟨#[71, 76, 79, 66, 65, 76]⟩ idx la) (recur : Bool) :
    Calls Efeg.prog 18 #[.pointer (some ⟨b, 0, none⟩), .string s, .bool recur] w fun e w' => e = .returned (.tuple #[.pointer (some ⟨sb, 0, none⟩), .int .i64 0, .bool true]) ∧ w = w' := 
  resolve_hit h hm hs hf hsy recur (.inl (by decide +kernel))
end
end Go.Proofs.Yoefew
