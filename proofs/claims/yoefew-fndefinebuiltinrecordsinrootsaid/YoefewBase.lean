/-
  THE BASE: symbol tables, symbols and their maps as blocks of the heap; what a step keeps.
-/
import Derived.Test.YoefewRows
import Derived.Maps.OwnSet
import Derived.WalkKit
namespace Go.Proofs.Yoefew
open Go.RowKit Go.Maps
open Go.WideMaps (keyOf_string_mk)

theorem hide {p : Prop} (h : p) : Hid p := h
theorem unhide {p : Prop} (h : Hid p) : p := h

theorem law9 : Keyed Efeg.prog 9 := string_keyed Efeg.underlying9
theorem zero29 (w : World) : (zeroValue 29).run Efeg.prog w = .ok (.pointer none) w := by kernel_rfl

/-- The name of a block as a pointer; nothing: nil. -/
def optPtr : Option Nat → Value
  | none => .pointer none
  | some b => .pointer (some ⟨b, 0, none⟩)

/-- How an element of the map reads: a symbol's block as a number. -/
def symElem : Value → Option (DataW Unit × List MemPlace)
  | .pointer none => some (.nil, [])
  | .pointer (some a) => if a = ⟨a.block, 0, none⟩ then some (.lit (.int .i64 a.block), []) else none
  | _ => none

def symData : Option Nat → DataW Unit
  | none => .nil
  | some b => .lit (.int .i64 b)

theorem symElem_opt (o : Option Nat) : symElem (optPtr o) = some (symData o, []) := by
  cases o <;> simp [symElem, optPtr, symData]

theorem symElem_inv {v : Value} {o : Option Nat} {ps : List MemPlace} (h : symElem v = some (symData o, ps)) : v = optPtr o := by
  unfold symElem at h
  split at h
  · cases o with
    | none => rfl
    | some b => simp [symData] at h
  · rename_i a
    split at h
    · rename_i ha
      cases o with
      | none => simp [symData] at h
      | some b =>
        simp [symData] at h
        have hb : a.block = b := by omega
        rw [ha, hb]; rfl
    · cases h
  · cases h

/-- Block b is a map of at most n entries that leads each name to the block that f says. -/
def MapAt (w : World) (b n : Nat) (f : List UInt8 → Option Nat) : Prop :=
  ∃ D : DataW Unit, w.ownsMap Efeg.prog 9 symElem b n D ∧ (∀ k, D.atKey (.string k) .nil = symData (f k)) ∧ (∀ k, Maps.has D (.string k) = (f k).isSome)

def upd (f : List UInt8 → Option Nat) (s : ByteArray) (b : Nat) : List UInt8 → Option Nat := fun k => if k = s.data.toList then some b else f k

theorem MapAt.lookup {w : World} {b n : Nat} {f : List UInt8 → Option Nat} (h : MapAt w b n f) {s : ByteArray} (hs : s.size ≤ maxLen) :
    (Instr.lookup 54 (.map (some b)) (.string s) true).run Efeg.prog w = .ok (.tuple #[optPtr (f s.data.toList), .bool (f s.data.toList).isSome]) w := by
  obtain ⟨D, hown, hat, hhas⟩ := h
  obtain ⟨v, ps, hrun, hv⟩ := hown.look_ok (zd := .nil) law9 Efeg.underlying54 (zero29 w) (symElem_opt none) (keyOf_string_mk Efeg.underlying9 hs)
  rw [hat] at hv
  rw [hrun, symElem_inv hv, hhas]

theorem MapAt.store {w : World} {b n : Nat} {f : List UInt8 → Option Nat} (h : MapAt w b n f) (hn : n < maxLen) {s : ByteArray} (hs : s.size ≤ maxLen) (sb : Nat) :
    ∃ w', (Instr.mapUpdate 54 (.map (some b)) (.string s) (.pointer (some ⟨sb, 0, none⟩))).run Efeg.prog w = .ok () w' ∧ MapAt w' b (n + 1) (upd f s sb) ∧ w.mapTurned w' b := by
  obtain ⟨D, hown, hat, hhas⟩ := h
  obtain ⟨w', hrun, hown', hturn⟩ := hown.store law9 Efeg.underlying54 hn (keyOf_string_mk Efeg.underlying9 hs) (symElem_opt (some sb))
  refine ⟨w', hrun, ⟨_, hown', fun k => ?_, fun k => ?_⟩, hturn⟩
  · by_cases hk : k = s.data.toList
    · subst hk
      rw [atKey_put_same hown.isMap (by simp [WideAt.IsKeyLit])]
      simp [upd]
    · rw [atKey_put_other (by simpa using hk), hat]
      simp [upd, hk]
  · by_cases hk : k = s.data.toList
    · subst hk
      rw [has_put_same hown.isMap (by simp [WideAt.IsKeyLit])]
      simp [upd]
    · rw [has_put_other (by simpa using hk), hhas]
      simp [upd, hk]

theorem MapAt.made (w : World) : MapAt (w.alloc (.map #[] 0)) w.heap.size 0 (fun _ => none) :=
  ⟨.map [], World.ownsMap_made w _ _ _, fun _ => rfl, fun _ => rfl⟩

theorem MapAt.same {w w' : World} {b n : Nat} {f : List UInt8 → Option Nat} (h : MapAt w b n f) (hb : w'.heap[b]? = w.heap[b]?) : MapAt w' b n f := by
  obtain ⟨D, ⟨es, clock, h1, h2⟩, h3⟩ := h
  exact ⟨D, ⟨es, clock, hb.trans h1, h2⟩, h3⟩

theorem MapAt.mono {w : World} {b n n' : Nat} {f : List UInt8 → Option Nat} (h : MapAt w b n f) (hn : n ≤ n') : MapAt w b n' f := by
  obtain ⟨D, h1, h3⟩ := h
  exact ⟨D, h1.mono hn, h3⟩

/-- A symbol table's block. -/
def TabAt (w : World) (b : Nat) (par : Option Addr) (blk : Bool) (mb : Nat) (nd md : Int) (fr bu : Value) : Prop :=
  w.heap[b]? = some (.cells #[.pointer par, .bool blk, .map (some mb), .int .i64 nd, .int .i64 md, fr, bu] 56)

/-- A symbol's block. -/
def SymAt (w : World) (b : Nat) (name scope : ByteArray) (idx : Int) (la : Bool) : Prop :=
  w.heap[b]? = some (.cells #[.string name, .string scope, .int .i64 idx, .bool la] 39)

/-- What a step keeps: all old blocks but those on the list. -/
structure Kept (S : List Nat) (w w' : World) : Prop where
  os : w'.os = w.os
  tape : w'.tape = w.tape
  output : w'.output = w.output
  size : w.heap.size ≤ w'.heap.size
  block : ∀ k, k < w.heap.size → k ∉ S → w'.heap[k]? = w.heap[k]?

theorem Kept.refl (S : List Nat) (w : World) : Kept S w w := ⟨rfl, rfl, rfl, Nat.le_refl _, fun _ _ _ => rfl⟩
theorem Kept.trans {S : List Nat} {a b c : World} (h : Kept S a b) (k : Kept S b c) : Kept S a c :=
  ⟨k.os.trans h.os, k.tape.trans h.tape, k.output.trans h.output, Nat.le_trans h.size k.size, fun i hi hn => (k.block i (Nat.lt_of_lt_of_le hi h.size) hn).trans (h.block i hi hn)⟩
theorem Kept.mono {S T : List Nat} {a b : World} (h : Kept S a b) (hs : ∀ x ∈ S, x ∈ T) : Kept T a b :=
  ⟨h.os, h.tape, h.output, h.size, fun i hi hn => h.block i hi (fun hm => hn (hs i hm))⟩
theorem Kept.below {S : List Nat} {B : Nat} {a b : World} (h : Kept S a b) (hB : B ≤ a.heap.size) (hS : ∀ x ∈ S, B ≤ x) : Below B a b :=
  ⟨h.os, h.tape, h.output, h.size, fun i hi => h.block i (by omega) (fun hm => by have := hS i hm; omega)⟩
theorem Kept.alloc {S : List Nat} {a w : World} (h : Kept S a w) (o : Obj) : Kept S a (w.alloc o) :=
  h.trans ⟨rfl, rfl, rfl, by simp, fun k hk _ => Below.heap_alloc _ _ _ hk⟩
theorem Kept.setCell {S : List Nat} {a w : World} (h : Kept S a w) {p : Addr} (hp : p.block ∈ S ∨ a.heap.size ≤ p.block) (u : Value) : Kept S a (w.setCell p u) := by
  refine ⟨h.os, h.tape, h.output, by simpa using h.size, fun i hi hn => ?_⟩
  have hne : i ≠ p.block := by
    rintro rfl
    rcases hp with hp | hp
    · exact hn hp
    · omega
  rw [Below.heap_setCell _ _ _ _ hne]
  exact h.block i hi hn
theorem Kept.drew {S : List Nat} {a w : World} (h : Kept S a w) : Kept S a w.drew := ⟨h.os, h.tape, h.output, h.size, h.block⟩
theorem Kept.turned {S : List Nat} {a w w' : World} {b : Nat} (h : Kept S a w) (ht : w.mapTurned w' b) (hb : b ∈ S ∨ a.heap.size ≤ b) : Kept S a w' := by
  have hg := ht.grown
  refine ⟨hg.os.trans h.os, hg.tape.trans h.tape, hg.output.trans h.output, Nat.le_trans h.size hg.size, fun i hi hn => ?_⟩
  have hne : i ≠ b := by
    rintro rfl
    rcases hb with hb | hb
    · exact hn hb
    · omega
  rw [hg.block i (by have := h.size; omega) (by simpa using hne)]
  exact h.block i hi hn

theorem TabAt.lt {w : World} {b mb : Nat} {par : Option Addr} {fr bu : Value} {blk : Bool} {nd md : Int} (h : TabAt w b par blk mb nd md fr bu) : b < w.heap.size :=
  (Array.getElem?_eq_some_iff.1 h).1
theorem SymAt.lt {w : World} {b : Nat} {name sc : ByteArray} {idx : Int} {la : Bool} (h : SymAt w b name sc idx la) : b < w.heap.size :=
  (Array.getElem?_eq_some_iff.1 h).1
theorem MapAt.lt {w : World} {b n : Nat} {f : List UInt8 → Option Nat} (h : MapAt w b n f) : b < w.heap.size := by
  obtain ⟨D, h, _⟩ := h
  exact h.lt
theorem TabAt.kept {S : List Nat} {w w' : World} {b mb : Nat} {par : Option Addr} {fr bu : Value} {blk : Bool} {nd md : Int} (h : TabAt w b par blk mb nd md fr bu) (k : Kept S w w') (hb : b ∉ S) : TabAt w' b par blk mb nd md fr bu :=
  (k.block b h.lt hb).trans h
theorem SymAt.kept {S : List Nat} {w w' : World} {b : Nat} {name sc : ByteArray} {idx : Int} {la : Bool} (h : SymAt w b name sc idx la) (k : Kept S w w') (hb : b ∉ S) : SymAt w' b name sc idx la :=
  (k.block b h.lt hb).trans h
theorem MapAt.kept {S : List Nat} {w w' : World} {b n : Nat} {f : List UInt8 → Option Nat} (h : MapAt w b n f) (k : Kept S w w') (hb : b ∉ S) : MapAt w' b n f :=
  h.same (k.block b h.lt hb)

/-- A fresh table: what 'NewSymbolTable' and 'Fork' leave. -/
def NewTab (w w' : World) (b mb : Nat) (par : Option Addr) (blk : Bool) : Prop :=
  w.heap.size ≤ b ∧ w.heap.size ≤ mb ∧ b ≠ mb ∧ TabAt w' b par blk mb 0 0 (.slice none 0 0) (.slice none 0 0) ∧ MapAt w' mb 0 (fun _ => none) ∧ Kept [] w w'

theorem newTab_mk (w : World) (par : Option Addr) (blk : Bool) :
    NewTab w ((w.alloc (.map #[] 0)).alloc (.cells #[.pointer par, .bool blk, .map (some w.heap.size), .int .i64 0, .int .i64 0, .slice none 0 0, .slice none 0 0] 56)) (w.heap.size + 1) w.heap.size par blk := by
  refine ⟨by omega, by omega, by omega, ?_, ?_, ((Kept.refl _ _).alloc _).alloc _⟩
  · unfold TabAt
    have := (MapKept.heap_alloc (w.alloc (.map #[] 0)) (.cells #[.pointer par, .bool blk, .map (some w.heap.size), .int .i64 0, .int .i64 0, .slice none 0 0, .slice none 0 0] 56)).1
    simpa using this
  · exact (MapAt.made w).same (Below.heap_alloc _ _ _ (by simp))

end Go.Proofs.Yoefew
