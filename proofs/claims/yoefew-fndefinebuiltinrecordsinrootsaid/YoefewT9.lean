import Derived.Test.YoefewT8
namespace Go.Proofs.Yoefew
open Go.RowKit Go.Maps

/-- The table's own store does not answer: the name is not there, or it is a local not yet assigned, asked for by the table itself. -/
def Misses (w : World) (f : List UInt8 → Option Nat) (s : ByteArray) (recur : Bool) : Prop :=
  f s.data.toList = none ∨ (recur = false ∧ ∃ lb nm i, f s.data.toList = some lb ∧ SymAt w lb nm ⟨#[76, 79, 67, 65, 76]⟩ i false)

section
variable {w : World} {b mb n : Nat} {par : Option Addr} {fr bu : Value} {blk : Bool} {nd md : Int} {f : List UInt8 → Option Nat} {s : ByteArray} {recur : Bool}

theorem resolve_root_miss (h : TabAt w b none blk mb nd md fr bu) (hm : MapAt w mb n f) (hs : s.size ≤ maxLen) (hf : Misses w f s recur) :
    Calls Efeg.prog 18 #[.pointer (some ⟨b, 0, none⟩), .string s, .bool recur] w fun e w' => e = .returned (.tuple #[.pointer none, .int .i64 0, .bool false]) ∧ w = w' := by
  rcases hf with hf | ⟨rfl, lb, nm, i, hf, hsy⟩
  · exact resolve_root_none h hm hs hf recur
  · have c0 : w.cell? ⟨b, 0, none⟩ = some (.pointer none) := by unfold TabAt at h; simp [World.cell?, h]
    have c2 : w.cell? ⟨b, 2, none⟩ = some (.map (some mb)) := by unfold TabAt at h; simp [World.cell?, h]
    have s1 := hsy.c1
    have s3 := hsy.c3
    have hl := hm.lookup hs
    rw [hf] at hl
    simp only [optPtr, Option.isSome_some] at hl
    clear hm hf
    go_enter Efeg.func18, Efeg.ntmps18
    go_wp2_with fail
    go_ret3
    exact ⟨rfl, rfl⟩

theorem resolve_up_none {p : Addr} (h : TabAt w b (some p) blk mb nd md fr bu) (hm : MapAt w mb n f) (hs : s.size ≤ maxLen) (hf : Misses w f s recur)
    (hc : Calls Efeg.prog 18 #[.pointer (some p), .string s, .bool true] w fun e w' => e = .returned (.tuple #[.pointer none, .int .i64 0, .bool false]) ∧ w = w') :
    Calls Efeg.prog 18 #[.pointer (some ⟨b, 0, none⟩), .string s, .bool recur] w fun e w' => e = .returned (.tuple #[.pointer none, .int .i64 0, .bool false]) ∧ w = w' := by
  have c0 : w.cell? ⟨b, 0, none⟩ = some (.pointer (some p)) := by unfold TabAt at h; simp [World.cell?, h]
  have c2 : w.cell? ⟨b, 2, none⟩ = some (.map (some mb)) := by unfold TabAt at h; simp [World.cell?, h]
  have hl := hm.lookup hs
  have HC := hide hc
  rcases hf with hf | ⟨rfl, lb, nm, i, hf, hsy⟩
  · rw [hf] at hl
    simp only [optPtr, Option.isSome_none] at hl
    clear hm hf hc
    go_enter Efeg.func18, Efeg.ntmps18
    go_wp2_with fail
    refine (unhide HC).mono ?_
    rintro e w' ⟨rfl, rfl⟩
    go_wp2_with fail
    go_ret3
    exact ⟨rfl, rfl⟩
  · have s1 := hsy.c1
    have s3 := hsy.c3
    rw [hf] at hl
    simp only [optPtr, Option.isSome_some] at hl
    clear hm hf hc
    go_enter Efeg.func18, Efeg.ntmps18
    go_wp2_with fail
    refine (unhide HC).mono ?_
    rintro e w' ⟨rfl, rfl⟩
    go_wp2_with fail
    go_ret3
    exact ⟨rfl, rfl⟩

theorem resolve_up_pass {p : Addr} {sb : Nat} {name sc : ByteArray} {idx : Int} {la : Bool} {d : Int} (h : TabAt w b (some p) blk mb nd md fr bu) (hm : MapAt w mb n f) (hs : s.size ≤ maxLen) (hf : Misses w f s recur)
    (hd0 : 0 ≤ d) (hd1 : d ≤ 1000000000) (hsy : SymAt w sb name sc idx la) (hu : blk = true ∨ (sc.toList == [71, 76, 79, 66, 65, 76]) = true ∨ (sc.toList == [66, 85, 73, 76, 84, 73, 78]) = true)
    (hc : Calls Efeg.prog 18 #[.pointer (some p), .string s, .bool true] w fun e w' => e = .returned (.tuple #[.pointer (some ⟨sb, 0, none⟩), .int .i64 d, .bool true]) ∧ w = w') :
    Calls Efeg.prog 18 #[.pointer (some ⟨b, 0, none⟩), .string s, .bool recur] w fun e w' => e = .returned (.tuple #[.pointer (some ⟨sb, 0, none⟩), .int .i64 (d + 1), .bool true]) ∧ w = w' := by
  have c0 : w.cell? ⟨b, 0, none⟩ = some (.pointer (some p)) := by unfold TabAt at h; simp [World.cell?, h]
  have c1 : w.cell? ⟨b, 1, none⟩ = some (.bool blk) := by unfold TabAt at h; simp [World.cell?, h]
  have c2 : w.cell? ⟨b, 2, none⟩ = some (.map (some mb)) := by unfold TabAt at h; simp [World.cell?, h]
  have y1 := hsy.c1
  have hl := hm.lookup hs
  have HC := hide hc
  rcases hf with hf | ⟨rfl, lb, nm, i, hf, hlb⟩
  · rw [hf] at hl
    simp only [optPtr, Option.isSome_none] at hl
    clear hm hf hc
    rcases hu with rfl | hu | hu
    · go_enter Efeg.func18, Efeg.ntmps18
      go_wp2_with fail
      refine (unhide HC).mono ?_
      rintro e w' ⟨rfl, rfl⟩
      go_wp2_with fail
      all_goals (go_ret3; exact ⟨rfl, rfl⟩)
    · go_enter Efeg.func18, Efeg.ntmps18
      go_wp2_with fail
      refine (unhide HC).mono ?_
      rintro e w' ⟨rfl, rfl⟩
      go_wp2_with fail
      all_goals (go_ret3; exact ⟨rfl, rfl⟩)
    · go_enter Efeg.func18, Efeg.ntmps18
      go_wp2_with fail
      refine (unhide HC).mono ?_
      rintro e w' ⟨rfl, rfl⟩
      go_wp2_with fail
      all_goals (go_ret3; exact ⟨rfl, rfl⟩)
  · have s1 := hlb.c1
    have s3 := hlb.c3
    rw [hf] at hl
    simp only [optPtr, Option.isSome_some] at hl
    clear hm hf hc
    rcases hu with rfl | hu | hu
    · go_enter Efeg.func18, Efeg.ntmps18
      go_wp2_with fail
      refine (unhide HC).mono ?_
      rintro e w' ⟨rfl, rfl⟩
      go_wp2_with fail
      all_goals (go_ret3; exact ⟨rfl, rfl⟩)
    · go_enter Efeg.func18, Efeg.ntmps18
      go_wp2_with fail
      refine (unhide HC).mono ?_
      rintro e w' ⟨rfl, rfl⟩
      go_wp2_with fail
      all_goals (go_ret3; exact ⟨rfl, rfl⟩)
    · go_enter Efeg.func18, Efeg.ntmps18
      go_wp2_with fail
      refine (unhide HC).mono ?_
      rintro e w' ⟨rfl, rfl⟩
      go_wp2_with fail
      all_goals (go_ret3; exact ⟨rfl, rfl⟩)

theorem resolve_up_free {B : Nat} {p : Addr} {sb : Nat} {name : ByteArray} {idx : Int} {la : Bool} {d : Int} {gs : List Nat} (h : TabAt w b (some p) false mb nd md fr bu) (hm : MapAt w mb n f) (hs : s.size ≤ maxLen) (hf : f s.data.toList = none)
    (hd0 : 0 ≤ d) (hd1 : d ≤ 1000000000) (hsy : SymAt w sb name ⟨#[76, 79, 67, 65, 76]⟩ idx la) (hnm : name.size ≤ maxLen) (ho : OwnsPtrs w B fr gs) (hn : n < maxLen) (hg : gs.length ≤ 10000000) (hB : B ≤ w.heap.size) (hne : b ≠ mb)
    (hc : Calls Efeg.prog 18 #[.pointer (some p), .string s, .bool true] w fun e w' => e = .returned (.tuple #[.pointer (some ⟨sb, 0, none⟩), .int .i64 d, .bool true]) ∧ w = w') :
    Calls Efeg.prog 18 #[.pointer (some ⟨b, 0, none⟩), .string s, .bool recur] w fun e w' => ∃ fb fr', e = .returned (.tuple #[.pointer (some ⟨fb, 0, none⟩), .int .i64 (d + 1), .bool true]) ∧ w.heap.size ≤ fb ∧
      SymAt w' fb name ⟨#[70, 82, 69, 69]⟩ gs.length false ∧ TabAt w' b (some p) false mb nd md fr' bu ∧ MapAt w' mb (n + 1) (upd f name fb) ∧ OwnsPtrs w' B fr' (gs ++ [sb]) ∧ Kept (b :: mb :: fr.ownBlock.toList) w w' := by
  have c0 : w.cell? ⟨b, 0, none⟩ = some (.pointer (some p)) := by unfold TabAt at h; simp [World.cell?, h]
  have c1 : w.cell? ⟨b, 1, none⟩ = some (.bool false) := by unfold TabAt at h; simp [World.cell?, h]
  have c2 : w.cell? ⟨b, 2, none⟩ = some (.map (some mb)) := by unfold TabAt at h; simp [World.cell?, h]
  have y1 := hsy.c1
  have hl := hm.lookup hs
  have HC := hide hc
  have HF := hide (free_root h hm ho hsy hnm hn hg hB hne)
  rw [hf] at hl
  simp only [optPtr, Option.isSome_none] at hl
  clear hm hf hc h ho hsy
  go_enter Efeg.func18, Efeg.ntmps18
  go_wp2_with fail
  refine (unhide HC).mono ?_
  rintro e w' ⟨rfl, rfl⟩
  go_wp2_with fail
  refine (unhide HF).mono ?_
  rintro e w' ⟨fb, fr', rfl, hge, r1, r2, r3, r4, r5⟩
  clear HF HC hl c0 c1 c2 y1
  go_wp2_with fail
  go_ret3
  exact ⟨fb, fr', rfl, hge, r1, r2, r3, r4, r5⟩
end
end Go.Proofs.Yoefew
