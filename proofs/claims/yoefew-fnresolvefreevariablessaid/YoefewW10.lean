import Derived.Test.YoefewL10b
import Derived.Test.YoefewBytes
import Derived.Test.YoefewEq
import Derived.Deep.QuietTactic
import Derived.BigQuiet
namespace Go.Proofs.Yoefew
open Go.RowKit Go.Maps

theorem nosym19 (w : World) : Calls Efeg.prog 19 #[.pointer none, .int .i64 0, .bool false] w fun e w' => e = .returned (.bool true) ∧ w = w' := by
  go_enter Efeg.func19, Efeg.ntmps19
  go_wp2
  go_ret
  exact ⟨rfl, rfl⟩

theorem make_strs (n : Nat) (h : n ≤ 10000000) (w : World) : (Instr.makeSlice 33 (.int .i64 0) (.int .i64 (n : Int))).run Efeg.prog w = .ok (.slice (some ⟨w.heap.size, 0, none⟩) 0 n) (w.alloc (.cells (madeCells #[.string ⟨#[]⟩] n) 9)) := by
  obtain ⟨i, hi, hz⟩ := Option.map_eq_some_iff.1 info9
  simp only [Prod.mk.injEq] at hz
  obtain ⟨z1, z2, z3⟩ := hz
  have := run_make (P := Efeg.prog) w 33 9 i (.string ⟨#[]⟩) Efeg.underlying33 hi z1 .i64 .i64 0 n (Int.le_refl 0) (by omega) (by rw [z3]; omega) (by omega)
  simpa [z2, Value.cells] using this

theorem Same.trans {a b c : World} (h : Same a b) (k : Same b c) : Same a c := ⟨k.os.trans h.os, k.tape.trans h.tape, k.output.trans h.output, k.heap.trans h.heap⟩

set_option maxRecDepth 100000 in
set_option maxHeartbeats 4000000 in
theorem walk10 {w : World} {a0 a1 : Option Addr} {ss0 ss1 : List ByteArray} {cap0 cap1 : Nat} (h0 : StrsAt w a0 ss0) (h1 : StrsAt w a1 ss1) (l0 : ss0.length ≤ maxLen) (l1 : ss1.length ≤ maxLen) :
    Calls Efeg.prog 10 #[.slice a0 ss0.length cap0, .slice a1 ss1.length cap1] w fun e w' => e = .returned (.bool true) ∧ Below w.heap.size w w' := by
  have HB := hide (bytes32 (cap0 := cap0) (cap1 := cap1) h0 h1 l0 l1)
  unfold maxLen at l0 l1
  go_enter Efeg.func10, Efeg.ntmps10
  go_wp2_with fail
  refine (unhide HB).mono ?_
  rintro e w' ⟨⟨r, rfl, hr⟩, rfl⟩
  clear HB
  cases r with
  | false =>
    clear hr
    go_wp2_with fail
    go_ret
    exact ⟨rfl, Below.refl _ _⟩
  | true =>
    have hr := hr rfl
    by_cases h16 : (ss0.length : Int) ≤ 4096 ∧ (ss1.length : Int) ≤ 4096
    case neg =>
      go_wp2_with fail
      all_goals (go_ret; exact ⟨rfl, Below.refl _ _⟩)
    obtain ⟨g0, g1⟩ := h16
    go_wp2_with fail
    refine (strBytes_calls h0 (by omega) (by omega)).mono ?_
    rintro e w' ⟨rfl, rfl⟩
    go_wp2_with fail
    refine (strBytes_calls h1 (by omega) (by omega)).mono ?_
    rintro e w' ⟨rfl, rfl⟩
    by_cases hsum : ((8 * ss0.length + tot ss0 : Nat) : Int) + ((8 * ss1.length + tot ss1 : Nat) : Int) ≤ 1048576
    case neg =>
      go_wp2_with fail
      go_ret
      exact ⟨rfl, Below.refl _ _⟩
    go_wp2_with fail
    refine (new_calls _).mono ?_
    rintro e w1 ⟨r, mr, rfl, hb1, hmb1, hne1, t1, m1, k1⟩
    clear hr hsum
    go_wp2_with fail
    refine (fork_calls _ _ _).mono ?_
    rintro e w2 ⟨fb, mf, rfl, hb2, hmb2, hne2, t2, m2, k2⟩
    have hmk := fun wx => run_make_row' (P := Efeg.prog) 27 29 (.pointer none) 8 Efeg.underlying27 info29 rfl .i64 .i64 ss0.length (by omega) (by omega) wx
    have kA : Kept [] w2 (w2.alloc (.cells (madeCells #[.pointer none] ss0.length) 29)) := (Kept.refl _ _).alloc _
    have z1 := k1.size
    have z2 := k2.size
    have y1 := t1.lt
    have y2 := m1.lt
    have y3 := t2.lt
    have y4 := m2.lt
    have hT : T11 w r fb mf w2.heap.size ss0 0 [] [] (w2.alloc (.cells (madeCells #[.pointer none] ss0.length) 29)) :=
      ⟨hne2, by omega, by omega, by omega, rfl, t2.kept kA (by simp), m2.kept kA (by simp), NSyms.nil _ _ _, PtrsAt.made _ _, by simp⟩
    have hd : r ≠ fb ∧ r ≠ mf ∧ mr ≠ fb ∧ mr ≠ mf ∧ r ≠ w2.heap.size ∧ mr ≠ w2.heap.size := by omega
    have t1' := (t1.kept k2 (by simp)).kept kA (by simp)
    have m1' := (m1.kept k2 (by simp)).kept kA (by simp)
    have hB : Below w.heap.size w (w2.alloc (.cells (madeCells #[.pointer none] ss0.length) 29)) := ((k1.trans k2).trans kA).below (Nat.le_refl _) (by simp)
    clear t1 m1 k1 t2 m2 k2 kA
    go_wp2_with fail
    clear hmk
    generalize w2.heap.size = qb at *
    go_loopw [8] (fun i wr => ∃ (k : Nat) (ls : List Nat), k ≤ ss0.length ∧ i = .int .i64 k ∧ T11 w r fb mf qb ss0 k ls ls wr ∧ TabAt wr r none false mr 0 0 (.slice none 0 0) (.slice none 0 0) ∧ MapAt wr mr 0 (fun _ => none) ∧ Below w.heap.size w wr) (fun i _ => ss0.length - (intOf i).toNat)
    case atStart => exact ⟨0, [], Nat.zero_le _, rfl, hT, t1', m1', hB⟩
    case round =>
      clear hT t1' m1' hB
      obtain ⟨k, ls, hk, rfl, hT, tr, mrr, hB⟩ := hrel
      by_cases hlt : k < ss0.length
      · obtain ⟨b, off, s, rfl, hs, hsz, hrow⟩ := h0.row hlt
        have hc := hrow _ hB
        have HS := hide hs
        clear hrow hs
        go_wp2_with fail
        refine (hT.define (unhide HS) hsz (by omega) hB.size).mono ?_
        rintro e w3 ⟨sb, rfl, hT3, k3⟩
        obtain ⟨v, ov⟩ := hT3.ptrs.old hlt
        have fv := hT3.ptrs.frozen k
        obtain ⟨hT4, k4⟩ := hT3.put (g := sb) hT.len hlt
        have tr4 := (tr.kept k3 (by simp; omega)).kept k4 (by simp; omega)
        have mr4 := (mrr.kept k3 (by simp; omega)).kept k4 (by simp; omega)
        have b3 := hB.trans (k3.below hB.size (by simp; exact ⟨hT.sizes.2.1, hT.sizes.2.2.1⟩))
        have b4 := b3.trans (k4.below b3.size (by simp; exact hT.sizes.2.2.2))
        clear hT hT3 hc HS k3 k4 b3 tr mrr hB
        have hlt' : (k : Int) < (ss0.length : Int) := by omega
        go_wp2_with fail
        go_roundw
        case rel => exact ⟨k + 1, ls ++ [sb], by omega, by go_num, hT4, tr4, mr4, b4⟩
        case measure => simp [intOf]; omega
      · have hkk : k = ss0.length := by omega
        subst hkk
        clear hk hlt
        go_wp2_with fail
        refine (fork_calls _ _ _).mono ?_
        rintro e w3 ⟨gb, mg, rfl, hb3, hmb3, hne3, t3, m3, k3⟩
        have hmk := make_strs ss1.length (by omega)
        have kA : Kept [] w3 (w3.alloc (.cells (madeCells #[.string ⟨#[]⟩] ss1.length) 9)) := (Kept.refl _ _).alloc _
        have kB := k3.trans kA
        have hG : G10 w r mr fb mf qb gb mg wr.heap.size ss0 ls [] [] [] (w3.alloc (.cells (madeCells #[.string ⟨#[]⟩] ss1.length) 9)) :=
          ⟨tr.kept kB (by simp), mrr.kept kB (by simp), hT.kept kB (by simp) (by simp) (by simp) (by simp), rfl, rfl, ⟨_, t3.kept kA (by simp), OwnsPtrs.nil _ _⟩, m3.kept kA (by simp), NSyms.nil _ _ _, by simp, hB.trans (kB.below hB.size (by simp)), kB.size⟩
        have hA : Apart w r mr fb mf qb gb mg wr.heap.size := by
          have := hB.size
          exact ⟨by omega, by omega, hne3, tr.lt, mrr.lt, hT.tab.lt, hT.map.lt, hT.ptrs.lt, hb3, hmb3, hB.size⟩
        have hO : OwnsStrs (w3.alloc (.cells (madeCells #[.string ⟨#[]⟩] ss1.length) 9)) w.heap.size w3.heap.size ss1.length [] := OwnsStrs.made w3 _ _ (by have := hB.size; have := k3.size; omega) (by unfold maxLen; omega)
        clear tr mrr hT t3 m3 k3 kA kB hB
        go_wp2_with fail
        clear hmk
        generalize w3.heap.size = ob at *
        generalize wr.heap.size = Bg at *
        have hO' : ∃ sbk capn, (.slice (some ⟨ob, 0, none⟩) 0 ss1.length : Value) = .slice (some ⟨sbk, 0, none⟩) ([] : List ByteArray).length capn ∧ OwnsStrs (w3.alloc (.cells (madeCells #[.string ⟨#[]⟩] ss1.length) 9)) w.heap.size sbk capn [] := ⟨_, _, rfl, hO⟩
        clear hO
        go_loopw [10, 11] (fun v i wr => ∃ (k : Nat) (sn : List ByteArray) (fs og : List Nat), k ≤ ss1.length ∧ sn.length ≤ k ∧ i = .int .i64 k ∧ G10 w r mr fb mf qb gb mg Bg ss0 ls sn fs og wr ∧ ∃ sbk capn, v = .slice (some ⟨sbk, 0, none⟩) sn.length capn ∧ OwnsStrs wr w.heap.size sbk capn sn) (fun _ i _ => ss1.length - (intOf i).toNat)
        case atStart => exact ⟨0, [], [], [], Nat.zero_le _, Nat.le_refl _, rfl, hG, hO'⟩
        case round =>
          clear hG hO'
          obtain ⟨k, sn, fs, og, hk, hsn, rfl, hG, sbk, capn, rfl, hO⟩ := hrel
          by_cases hlt : k < ss1.length
          · obtain ⟨b, off, p, rfl, hp, hpz, hrow⟩ := h1.row hlt
            have hc := hrow _ hG.below
            have hlt' : (k : Int) < (ss1.length : Int) := by omega
            clear hrow hp
            have c24a := lastIndex_calls (cap := cap0) (h0.below hG.below (Nat.le_refl _)) p (by omega)
            rcases hG.t11.found p with ⟨hneg, _⟩ | ⟨j, lg, hj, hjlt, _, _, _, _⟩
            · -- no local
              have HR := hide (hG.missing hpz hneg)
              have HL := hide c24a
              clear c24a
              generalize lastIdx ss0 p = li at *
              go_wp2_with fail
              refine (unhide HR).mono ?_
              rintro e w4 ⟨rfl, rfl⟩
              go_wp2_with fail
              refine (unhide HL).mono ?_
              rintro e w4 ⟨rfl, rfl⟩
              go_wp2_with fail
              refine (nosym19 _).mono ?_
              rintro e w4 ⟨rfl, rfl⟩
              go_wp2_with fail
              go_roundw
              case rel => exact ⟨k + 1, sn, fs, og, by omega, by omega, by go_num, hG, sbk, capn, rfl, hO⟩
              case measure => simp [intOf]; omega
            · -- a local
              rw [hj] at c24a
              clear c24a
              by_cases hseen : lastIdx sn p < 0
              · -- not yet captured
                have HR := hide (hG.capture hA hpz hseen hj (by omega))
                have hbz := hG.below.size
                have HSEEN := hide hG.seen
                have hrow9 := hO.rowT.2
                clear hG
                go_wp2_with fail
                refine (unhide HR).mono ?_
                rintro e w4 ⟨g, o, rfl, hsy, hG, hOk⟩
                have hO4 := hOk _ _ _ _ hO
                clear HR hOk hO hc
                have c24a := lastIndex_calls (cap := cap0) (h0.below hG.below (Nat.le_refl _)) p (by omega)
                rw [hj] at c24a
                have HL := hide c24a
                have HL2 := hide (lastIndex_calls (cap := capn) (hO4.strs (fun k' q hk' => (unhide HSEEN k' q hk').1)) p (by omega))
                have c0 := hsy.c0
                have c1 := hsy.c1
                have c2 := hsy.c2
                clear c24a hsy
                generalize lastIdx sn p = lsn at *
                go_wp2_with fail
                refine (unhide HL).mono ?_
                rintro e w5 ⟨rfl, rfl⟩
                go_wp2_with fail
                refine (unhide HL2).mono ?_
                rintro e w5 ⟨rfl, rfl⟩
                have kE : Kept [] w4 (w4.alloc (.cells #[.string p] 9)) := (Kept.refl _ _).alloc _
                have hO5 := hO4.kept kE (by simp)
                have hG5 := hG.kept kE (by simp)
                have e5 : (w4.alloc (.cells #[.string p] 9)).cell? ⟨w4.heap.size, 0, none⟩ = some (.string p) := by simp
                have hB5 : w.heap.size ≤ (w4.alloc (.cells #[.string p] 9)).heap.size := hG5.below.size
                clear hO4 hG kE HL HL2 HSEEN
                go_wp2_with (at_builtin; refine wpList_append_str _ rfl _ _ rfl w.heap.size sbk capn sn rfl hO5 w4.heap.size p rfl e5 (by omega) hB5 ?_)
                intro g6 cap6 w6 hO6 k6
                have hG6 := hG5.kept k6 (by simp; exact ⟨hO5.rowT.1, hrow9⟩)
                clear hO5 hG5 k6 e5
                go_wp2_with fail
                go_roundw
                case rel => exact ⟨k + 1, sn ++ [p], fs ++ [g], og ++ [o], by omega, by simp; omega, by go_num, hG6, g6, cap6, by simp, hO6⟩
                case measure => simp [intOf]; omega
              · -- captured before
                obtain ⟨k', hk'⟩ := Int.eq_ofNat_of_zero_le (a := lastIdx sn p) (by omega)
                obtain ⟨g, hsy, hres⟩ := hG.hit hpz hk'
                have c24a := lastIndex_calls (cap := cap0) (h0.below hG.below (Nat.le_refl _)) p (by omega)
                rw [hj] at c24a
                have c24b := lastIndex_calls (cap := capn) (hO.strs (fun k' q hk' => (hG.seen k' q hk').1)) p (by omega)
                rw [hk'] at c24b
                have HR := hide hres
                have HL := hide c24a
                have HL2 := hide c24b
                have c0 := hsy.c0
                have c1 := hsy.c1
                have c2 := hsy.c2
                clear c24a c24b hres hsy hk' hseen
                go_wp2_with fail
                refine (unhide HR).mono ?_
                rintro e w4 ⟨rfl, rfl⟩
                go_wp2_with fail
                refine (unhide HL).mono ?_
                rintro e w4 ⟨rfl, rfl⟩
                go_wp2_with fail
                refine (unhide HL2).mono ?_
                rintro e w4 ⟨rfl, rfl⟩
                go_wp2_with fail
                go_roundw
                case rel => exact ⟨k + 1, sn, fs, og, by omega, by omega, by go_num, hG, sbk, capn, rfl, hO⟩
                case measure => simp [intOf]; omega
          · have hkk : k = ss1.length := by omega
            subst hkk
            clear hlt hk
            have hneq := neq_same
            have hbel := hG.below
            have hT := hG.t11
            obtain ⟨hol, frv, tg, hfr⟩ := hG.free
            have hST := hO.strs (fun k' q hk' => (hG.seen k' q hk').1)
            rcases hfr.form with ⟨rfl, rfl⟩ | ⟨rb, capr, cur, rfl, _, _⟩
            · have hnil : sn = [] := List.eq_nil_of_length_eq_zero (by simpa using hol.symm)
              subst hnil
              go_wp2_with fail
              refine (free_calls tg).mono ?_
              rintro e w5 ⟨rfl, rfl⟩
              go_wp2_with fail
              go_loop [18] (fun i => i = .int .i64 0) (fun _ => 0)
              case atStart => rfl
              case round =>
                subst hrel
                go_wp2_with fail
                refine (free_calls hT.tab).mono ?_
                rintro e w5 ⟨rfl, rfl⟩
                go_wp2_with fail
                go_ret
                exact ⟨rfl, hbel⟩
            · rw [hol] at tg
              have hz2 : sn.length ≤ 4096 := by omega
              go_wp2_with fail
              refine (free_calls tg).mono ?_
              rintro e w5 ⟨rfl, rfl⟩
              go_wp2_with fail
              go_loopw [18] (fun i wx => ∃ k : Nat, k ≤ sn.length ∧ i = .int .i64 k ∧ Same wr wx) (fun i _ => sn.length - (intOf i).toNat)
              case atStart => exact ⟨0, Nat.zero_le _, rfl, Same.refl _⟩
              case round =>
                obtain ⟨k, hk, rfl, hsame⟩ := hrel
                have hk0 : Kept [] _ wr := hsame.kept
                have hbel' := hbel.trans (hk0.below hbel.size (by simp))
                by_cases hlt : k < sn.length
                · obtain ⟨p, hp⟩ : ∃ p, sn[k]? = some p := ⟨sn[k], by simp⟩
                  obtain ⟨hpz, _, j, g, hj, hjlt, hlj, hok⟩ := hG.seen k p hp
                  have cs : wr.cell? ⟨sbk, k, none⟩ = some (.string p) := by
                    obtain ⟨_, hh⟩ := (hO.kept hk0 (by simp)).strs (fun k' q hk' => (hG.seen k' q hk').1)
                    rcases hh with hh | ⟨b', off', e, _, hh⟩
                    · subst hh; simp at hp
                    · cases e
                      have := hh k p hp
                      simpa using this
                  have cf := (hfr.kept hk0 (by simp)).cell hok
                  have cq := (hT.ptrs.kept hk0 (by simp)).cell hlj
                  have HQ : Hid (∀ n, Calls Efeg.prog 24 #[.slice a0 ss0.length cap0, .string p] (wr.drewN n) fun e w' => e = .returned (.int .i64 j) ∧ ∃ m, w' = wr.drewN m) := fun n => by
                    have c24 := lastIndex_calls (cap := cap0) (h0.below (hbel'.trans (((Same.drewN wr n).kept (S := [])).below hbel'.size (by simp))) (Nat.le_refl _)) p (by omega)
                    rw [hj] at c24
                    exact c24.mono (by rintro e w' ⟨rfl, rfl⟩; exact ⟨rfl, _, rfl⟩)
                  have hlt' : (k : Int) < (sn.length : Int) := by omega
                  have hj' : (j : Int) < (ss0.length : Int) := by omega
                  have HSM := hide hsame
                  clear hp hj hlj hok hsame hG hO hfr hT hST tg hk0 hA hol
                  go_wp2_with fail
                  go_quiet ((go_at_call 24; exact HQ.out _))
                  go_wp2_with fail
                  go_roundw
                  case rel => exact ⟨k + 1, by omega, by go_num, (unhide HSM).trans (Same.drewN _ _)⟩
                  case measure => simp [intOf]; omega
                · have tf := hT.tab.kept hk0 (by simp)
                  go_wp2_with fail
                  refine (free_calls tf).mono ?_
                  rintro e w5 ⟨rfl, rfl⟩
                  go_wp2_with fail
                  go_ret
                  exact ⟨rfl, hbel'⟩
end Go.Proofs.Yoefew
