import Derived.Test.YoefewL11
import Derived.Test.YoefewBytes
import Derived.Test.YoefewEq
import Derived.Deep.QuietTactic
import Derived.BigQuiet
namespace Go.Proofs.Yoefew
open Go.RowKit Go.Maps

set_option maxRecDepth 100000 in
set_option maxHeartbeats 4000000 in
theorem walk11 {w : World} {a0 a1 : Option Addr} {ss0 ss1 : List ByteArray} {cap0 cap1 : Nat} (h0 : StrsAt w a0 ss0) (h1 : StrsAt w a1 ss1) (l0 : ss0.length ≤ maxLen) (l1 : ss1.length ≤ maxLen) (x : ByteArray) (lx : x.size ≤ maxLen) (q : Bool) :
    Calls Efeg.prog 11 #[.slice a0 ss0.length cap0, .slice a1 ss1.length cap1, .string x, .bool q] w fun e w' => e = .returned (.bool true) ∧ Below w.heap.size w w' := by
  have HB := hide (bytes33 (cap0 := cap0) (cap1 := cap1) h0 h1 l0 l1 x lx q)
  have HX := hide lx
  unfold maxLen at l0 l1 lx
  go_enter Efeg.func11, Efeg.ntmps11
  go_wp2_with fail
  refine (unhide HB).mono ?_
  rintro e w' ⟨⟨r, rfl, hr⟩, rfl⟩
  clear HB
  cases r with
  | false =>
    clear hr
    go_wp2_with fail
    go_ret
    exact ⟨rfl, Below.refl _ _⟩
  | true =>
    have hr := hr rfl
    by_cases h16 : (ss0.length : Int) ≤ 65536 ∧ (ss1.length : Int) ≤ 65536
    case neg =>
      go_wp2_with fail
      all_goals (go_ret; exact ⟨rfl, Below.refl _ _⟩)
    obtain ⟨g0, g1⟩ := h16
    go_wp2_with fail
    refine (strBytes_calls h0 (by omega) (by omega)).mono ?_
    rintro e w' ⟨rfl, rfl⟩
    go_wp2_with fail
    refine (strBytes_calls h1 (by omega) (by omega)).mono ?_
    rintro e w' ⟨rfl, rfl⟩
    by_cases hsum : ((8 * ss0.length + tot ss0 : Nat) : Int) + ((8 * ss1.length + tot ss1 : Nat) : Int) + x.size ≤ 1048576
    case neg =>
      go_wp2_with fail
      go_ret
      exact ⟨rfl, Below.refl _ _⟩
    go_wp2_with fail
    refine (new_calls _).mono ?_
    rintro e w1 ⟨r, mr, rfl, hb1, hmb1, hne1, t1, m1, k1⟩
    clear hr hsum
    have hmk := fun wx => run_make_row' (P := Efeg.prog) 27 29 (.pointer none) 8 Efeg.underlying27 info29 rfl .i64 .i64 ss0.length (by omega) (by omega) wx
    have kA : Kept [] w1 (w1.alloc (.cells (madeCells #[.pointer none] ss0.length) 29)) := (Kept.refl _ _).alloc _
    have hS : S5 w r mr w1.heap.size ss0 0 [] [] (w1.alloc (.cells (madeCells #[.pointer none] ss0.length) 29)) :=
      ⟨hne1, hb1, hmb1, k1.size, rfl, t1.kept kA (by simp), m1.kept kA (by simp), Syms.nil _ _, PtrsAt.made _ _, (k1.trans kA).below (Nat.le_refl _) (by simp)⟩
    clear t1 m1 kA
    go_wp2_with fail
    clear hmk
    generalize w1.heap.size = pb at *
    go_loopw [11] (fun i wr => ∃ (k : Nat) (gs : List Nat), k ≤ ss0.length ∧ i = .int .i64 k ∧ S5 w r mr pb ss0 k gs gs wr) (fun i _ => ss0.length - (intOf i).toNat)
    case atStart => exact ⟨0, [], Nat.zero_le _, rfl, hS⟩
    case round =>
      clear hS k1
      obtain ⟨k, gs, hk, rfl, hS⟩ := hrel
      by_cases hlt : k < ss0.length
      · obtain ⟨b, off, s, rfl, hs, hsz, hrow⟩ := h0.row hlt
        have hc := hrow _ hS.below
        have HS := hide hs
        have hgl : Hid (gs.length = k) := hS.2.2.2.2.1
        clear hrow hs
        go_wp2_with fail
        refine (hS.define (unhide HS) hsz (by omega)).mono ?_
        rintro e w3 ⟨sb, rfl, hsy, hS3⟩
        obtain ⟨v, ov⟩ := hS3.ptrs.old hlt
        have fv := hS3.ptrs.frozen k
        clear hS hc hsy HS
        have hlt' : (k : Int) < (ss0.length : Int) := by omega
        go_wp2_with fail
        go_roundw
        case rel => exact ⟨k + 1, gs ++ [sb], by omega, by go_num, hS3.put (unhide hgl) hlt⟩
        case measure => simp [intOf]; omega
      · have hkk : k = ss0.length := by omega
        subst hkk
        clear hk hlt
        go_wp2_with fail
        refine (fork_calls _ _ _).mono ?_
        rintro e w2 ⟨fb, mf, rfl, hb2, hmb2, hne2, t2, m2, k2⟩
        have hmk := fun wx => run_make_row' (P := Efeg.prog) 27 29 (.pointer none) 8 Efeg.underlying27 info29 rfl .i64 .i64 ss1.length (by omega) (by omega) wx
        have kA : Kept [] w2 (w2.alloc (.cells (madeCells #[.pointer none] ss1.length) 29)) := (Kept.refl _ _).alloc _
        have hbel := hS.below
        have hz := hbel.size
        have hz2 := k2.size
        have lr := hS.tab.lt
        have lp := hS.ptrs.lt
        have lm : mr < wr.heap.size := by obtain ⟨_, _, _, _, _, _, m, _⟩ := id hS; exact m.lt
        have hS2 := hS.kept (k2.trans kA) (by simp) (by simp) (by simp) (by simp) (by simp)
        have hT : T11 w r fb mf w2.heap.size ss1 0 [] [] (w2.alloc (.cells (madeCells #[.pointer none] ss1.length) 29)) :=
          ⟨hne2, by omega, by omega, by omega, rfl, t2.kept kA (by simp), m2.kept kA (by simp), NSyms.nil _ _ _, PtrsAt.made _ _, by simp⟩
        have hd : r ≠ fb ∧ r ≠ mf ∧ mr ≠ fb ∧ mr ≠ mf ∧ pb ≠ fb ∧ pb ≠ mf ∧ r ≠ w2.heap.size ∧ mr ≠ w2.heap.size ∧ pb ≠ w2.heap.size := by omega
        clear t2 m2 kA k2 hS
        go_wp2_with fail
        clear hmk
        generalize w2.heap.size = qb at *
        go_loopw [14] (fun i wr => ∃ (k : Nat) (ls : List Nat), k ≤ ss1.length ∧ i = .int .i64 k ∧ S5 w r mr pb ss0 ss0.length gs gs wr ∧ T11 w r fb mf qb ss1 k ls ls wr) (fun i _ => ss1.length - (intOf i).toNat)
        case atStart => exact ⟨0, [], Nat.zero_le _, rfl, hS2, hT⟩
        case round =>
          clear hS2 hT
          obtain ⟨k, ls, hk, rfl, hS, hT⟩ := hrel
          obtain ⟨d1, d2, d3, d4, d5, d6, d7, d8, d9⟩ := hd
          by_cases hlt : k < ss1.length
          · obtain ⟨b, off, s, rfl, hs, hsz, hrow⟩ := h1.row hlt
            have hc := hrow _ hS.below
            have HS := hide hs
            clear hrow hs
            go_wp2_with fail
            refine (hT.define (unhide HS) hsz (by omega) hS.below.size).mono ?_
            rintro e w3 ⟨sb, rfl, hT3, k3⟩
            have hS3 := hS.kept k3 (by simp; exact ⟨hT.sizes.2.1, hT.sizes.2.2.1⟩) (by simp; exact ⟨d1, d2⟩) (by simp; exact ⟨d3, d4⟩) (by simp; exact ⟨d5, d6⟩) (fun g nm i hg => by simp; exact ⟨hg.ne_tab hT.tab, hg.ne_map hT.map⟩)
            obtain ⟨v, ov⟩ := hT3.ptrs.old hlt
            have fv := hT3.ptrs.frozen k
            obtain ⟨hT4, k4⟩ := hT3.put (g := sb) hT.len hlt
            have hS4 := hS3.kept k4 (by simp; exact hT.sizes.2.2.2) (by simpa using d7) (by simpa using d8) (by simpa using d9) (fun g nm i hg => by simpa using hg.ne_ptrs hT3.ptrs)
            clear hS hT hS3 hT3 hc HS k3 k4
            have hlt' : (k : Int) < (ss1.length : Int) := by omega
            go_wp2_with fail
            go_roundw
            case rel => exact ⟨k + 1, ls ++ [sb], by omega, by go_num, hS4, hT4⟩
            case measure => simp [intOf]; omega
          · have hkk : k = ss1.length := by omega
            subst hkk
            clear hk hlt
            have hbel := hS.below
            have hneq := neq_same
            have c24a := lastIndex_calls (cap := cap0) (h0.below hbel (Nat.le_refl _)) x (by omega)
            have c24b := lastIndex_calls (cap := cap1) (h1.below hbel (Nat.le_refl _)) x (by omega)
            have tr := hS.tab
            have mrr := hS.map
            have tf := hT.tab
            have mff := hT.map
            have ptf := hT.ptrs
            rcases hT.found x with ⟨hli, hlo⟩ | ⟨j, lg, hli, hj, hlo, hsl, hlj, hlg⟩
            · -- no local of that name
              rcases hS.found x with ⟨hgi, hgo⟩ | ⟨i, gg, nm, hgi, hi, hgo, hsg, hcg⟩
              · have HL0 := hide c24a
                have HL1 := hide c24b
                have HR1 := hide (resolve_up_none (recur := false) tf mff (unhide HX) (.inl hlo) (resolve_root_none tr mrr (unhide HX) hgo true))
                have HR2 := hide (resolve_up_none (recur := true) tf mff (unhide HX) (.inl hlo) (resolve_root_none tr mrr (unhide HX) hgo true))
                clear c24a c24b hS hT mrr mff ptf tr hlo hgo
                generalize lastIdx ss0 x = gi at *
                generalize lastIdx ss1 x = li at *
                cases q
                all_goals
                  go_wp2_with fail
                  refine (unhide HL0).mono ?_
                  rintro e w3 ⟨rfl, rfl⟩
                  go_wp2_with fail
                  refine (unhide HL1).mono ?_
                  rintro e w3 ⟨rfl, rfl⟩
                  go_wp2_with fail
                  refine (unhide HR1).mono ?_
                  rintro e w3 ⟨rfl, rfl⟩
                  go_wp2_with fail
                  refine (unhide HR2).mono ?_
                  rintro e w3 ⟨rfl, rfl⟩
                  go_wp2_with fail
                  refine (free_calls tf).mono ?_
                  rintro e w3 ⟨rfl, rfl⟩
                  go_wp2_with fail
                  go_ret
                  exact ⟨rfl, hbel⟩
              · rw [hgi] at c24a
                have HL0 := hide c24a
                have HL1 := hide c24b
                have HR1 := hide (resolve_up_pass (recur := false) tf mff (unhide HX) (.inl hlo) (Int.le_refl 0) (by decide) hsg (.inr (.inl (by decide +kernel))) (resolve_hit tr mrr (unhide HX) hgo hsg true (.inr (.inr rfl))))
                have HR2 := hide (resolve_up_pass (recur := true) tf mff (unhide HX) (.inl hlo) (Int.le_refl 0) (by decide) hsg (.inr (.inl (by decide +kernel))) (resolve_hit tr mrr (unhide HX) hgo hsg true (.inr (.inr rfl))))
                have hi' : (i : Int) < (ss0.length : Int) := by omega
                clear c24a c24b hS hT mrr mff ptf tr hlo hgo hgi hsg
                generalize lastIdx ss1 x = li at *
                cases q
                all_goals
                  go_wp2_with fail
                  refine (unhide HL0).mono ?_
                  rintro e w3 ⟨rfl, rfl⟩
                  go_wp2_with fail
                  refine (unhide HL1).mono ?_
                  rintro e w3 ⟨rfl, rfl⟩
                  go_wp2_with fail
                  refine (unhide HR1).mono ?_
                  rintro e w3 ⟨rfl, rfl⟩
                  go_wp2_with fail
                  refine (unhide HR2).mono ?_
                  rintro e w3 ⟨rfl, rfl⟩
                  go_wp2_with fail
                  refine (free_calls tf).mono ?_
                  rintro e w3 ⟨rfl, rfl⟩
                  go_wp2_with fail
                  go_ret
                  exact ⟨rfl, hbel⟩
            · rw [hli] at c24b
              have HL1 := hide c24b
              have hcl := ptf.cell hlj
              have hj' : (j : Int) < (ss1.length : Int) := by omega
              cases q with
              | true =>
                have HL0 := hide c24a
                have kX : Kept [lg] wr (wr.setCell ⟨lg, 3, none⟩ (.bool true)) := (Kept.refl _ _).setCell (by simp) _
                have slX := hsl.set3 (la' := true)
                have tfX := tf.kept kX (by simpa using (hsl.ne_tab tf).symm)
                have mfX := mff.kept kX (by simpa using (hsl.ne_map mff).symm)
                have ptX := ptf.kept kX (by simpa using (hsl.ne_ptrs ptf).symm)
                have belX := hbel.trans (kX.below hbel.size (by simpa using hlg))
                have clX := ptX.cell hlj
                have y3 := hsl.c3
                have z3 := hsl.frozen 3
                clear c24a c24b hS hT mrr mff ptf tr tf hli hsl
                generalize lastIdx ss0 x = gi at *
                go_wp2_with fail
                refine (unhide HL0).mono ?_
                rintro e w3 ⟨rfl, rfl⟩
                go_wp2_with fail
                refine (unhide HL1).mono ?_
                rintro e w3 ⟨rfl, rfl⟩
                go_wp2_with fail
                refine calls_forget (fun wX => TabAt wX fb (some ⟨r, 0, none⟩) false mf ss1.length ss1.length (.slice none 0 0) (.slice none 0 0) ∧ MapAt wX mf ss1.length (look ss1 ls ss1.length) ∧ SymAt wX lg x ⟨#[76, 79, 67, 65, 76]⟩ j true ∧ PtrsAt wX qb ss1.length ls ∧ Below w.heap.size w wX) ⟨tfX, mfX, slX, ptX, belX⟩ ?_
                clear tfX mfX slX ptX belX clX kX y3 z3 hbel hcl
                rintro wX ⟨tfX, mfX, slX, ptX, belX⟩
                have clX := ptX.cell hlj
                refine (resolve_hit tfX mfX (unhide HX) hlo slX false (.inr (.inl rfl))).mono ?_
                rintro e w3 ⟨rfl, rfl⟩
                go_wp2_with fail
                refine (resolve_hit tfX mfX (unhide HX) hlo slX true (.inr (.inl rfl))).mono ?_
                rintro e w3 ⟨rfl, rfl⟩
                go_wp2_with fail
                refine (free_calls tfX).mono ?_
                rintro e w3 ⟨rfl, rfl⟩
                go_wp2_with fail
                refine (fork_calls _ _ _).mono ?_
                rintro e w5 ⟨gb, mg, rfl, hgb, hmg, hne5, t5, m5, k5⟩
                have tf5 := tfX.kept k5 (by simp)
                have mf5 := mfX.kept k5 (by simp)
                have sl5 := slX.kept k5 (by simp)
                have pt5 := ptX.kept k5 (by simp)
                have lq := ptX.lt
                have hbel5 : Below w.heap.size w w5 := belX.trans (k5.below belX.size (by simp))
                have HF := hide (resolve_up_free (B := w.heap.size) (recur := false) t5 m5 (unhide HX) rfl (Int.le_refl 0) (by decide) sl5 (unhide HX) (OwnsPtrs.nil w5 _) (by decide +kernel) (by simp) hbel5.size hne5 (resolve_hit tf5 mf5 (unhide HX) hlo sl5 true (.inr (.inr rfl))))
                clear t5 m5 k5 tf5 mf5 sl5
                go_wp2_with fail
                refine (unhide HF).mono ?_
                rintro e w6 ⟨fb6, fr6, rfl, hge, s6, t6, m6, o6, k6⟩
                clear HF
                have e0 := s6.c0
                have e1 := s6.c1
                have e2 : w6.cell? ⟨fb6, 2, none⟩ = some (.int .i64 0) := by simpa using s6.c2
                have lb := belX.size
                have pt6 := pt5.kept k6 (by simp [Value.ownBlock]; omega)
                have hbel6 : Below w.heap.size w w6 := hbel5.trans (k6.below hbel5.size (by simp [Value.ownBlock]; omega))
                have cq := pt6.cell hlj
                rcases o6.form with ⟨_, hnil⟩ | ⟨rb, cap6, cur, rfl, _, _⟩
                · simp at hnil
                have cf : w6.cell? ⟨rb, 0, none⟩ = some (sptr lg) := o6.cell (by simp)
                simp only [List.nil_append, List.length_singleton] at t6
                clear o6 k6 pt5 pt6 s6 m6 hbel5
                go_wp2_with fail
                refine (free_calls t6).mono ?_
                rintro e w7 ⟨rfl, rfl⟩
                go_wp2_with fail
                go_quiet (fail)
                go_wp2_with fail
                go_ret
                exact ⟨rfl, below_drewN hbel6 _⟩
              | false =>
                have HR2 := hide (resolve_hit tf mff (unhide HX) hlo hsl true (.inr (.inr rfl)))
                rcases hS.found x with ⟨hgi, hgo⟩ | ⟨i, gg, nm, hgi, hi, hgo, hsg, hcg⟩
                · have HL0 := hide c24a
                  have HR1 := hide (resolve_up_none (recur := false) tf mff (unhide HX) (.inr ⟨rfl, lg, x, _, hlo, hsl⟩) (resolve_root_none tr mrr (unhide HX) hgo true))
                  clear c24a c24b hS hT mrr tr hgo hli
                  generalize lastIdx ss0 x = gi at *
                  go_wp2_with fail
                  refine (unhide HL0).mono ?_
                  rintro e w3 ⟨rfl, rfl⟩
                  go_wp2_with fail
                  refine (unhide HL1).mono ?_
                  rintro e w3 ⟨rfl, rfl⟩
                  go_wp2_with fail
                  refine (unhide HR1).mono ?_
                  rintro e w3 ⟨rfl, rfl⟩
                  go_wp2_with fail
                  refine (unhide HR2).mono ?_
                  rintro e w3 ⟨rfl, rfl⟩
                  go_wp2_with fail
                  refine (free_calls tf).mono ?_
                  rintro e w3 ⟨rfl, rfl⟩
                  go_wp2_with fail
                  refine (fork_calls _ _ _).mono ?_
                  rintro e w5 ⟨gb, mg, rfl, hgb, hmg, hne5, t5, m5, k5⟩
                  have tf5 := tf.kept k5 (by simp)
                  have mf5 := mff.kept k5 (by simp)
                  have sl5 := hsl.kept k5 (by simp)
                  have pt5 := ptf.kept k5 (by simp)
                  have lq := ptf.lt
                  have hbel5 : Below w.heap.size w w5 := hbel.trans (k5.below hbel.size (by simp))
                  have HF := hide (resolve_up_free (B := w.heap.size) (recur := false) t5 m5 (unhide HX) rfl (Int.le_refl 0) (by decide) sl5 (unhide HX) (OwnsPtrs.nil w5 _) (by decide +kernel) (by simp) hbel5.size hne5 (resolve_hit tf5 mf5 (unhide HX) hlo sl5 true (.inr (.inr rfl))))
                  clear t5 m5 k5 tf5 mf5 sl5
                  go_wp2_with fail
                  refine (unhide HF).mono ?_
                  rintro e w6 ⟨fb6, fr6, rfl, hge, s6, t6, m6, o6, k6⟩
                  clear HF
                  have e0 := s6.c0
                  have e1 := s6.c1
                  have e2 : w6.cell? ⟨fb6, 2, none⟩ = some (.int .i64 0) := by simpa using s6.c2
                  have lb := hbel.size
                  have pt6 := pt5.kept k6 (by simp [Value.ownBlock]; omega)
                  have hbel6 : Below w.heap.size w w6 := hbel5.trans (k6.below hbel5.size (by simp [Value.ownBlock]; omega))
                  have cq := pt6.cell hlj
                  rcases o6.form with ⟨_, hnil⟩ | ⟨rb, cap6, cur, rfl, _, _⟩
                  · simp at hnil
                  have cf : w6.cell? ⟨rb, 0, none⟩ = some (sptr lg) := o6.cell (by simp)
                  simp only [List.nil_append, List.length_singleton] at t6
                  clear o6 k6 pt5 pt6 s6 m6 hbel5
                  go_wp2_with fail
                  refine (free_calls t6).mono ?_
                  rintro e w7 ⟨rfl, rfl⟩
                  go_wp2_with fail
                  go_quiet (fail)
                  go_wp2_with fail
                  go_ret
                  exact ⟨rfl, below_drewN hbel6 _⟩
                · rw [hgi] at c24a
                  have HL0 := hide c24a
                  have HR1 := hide (resolve_up_pass (recur := false) tf mff (unhide HX) (.inr ⟨rfl, lg, x, _, hlo, hsl⟩) (Int.le_refl 0) (by decide) hsg (.inr (.inl (by decide +kernel))) (resolve_hit tr mrr (unhide HX) hgo hsg true (.inr (.inr rfl))))
                  have hi' : (i : Int) < (ss0.length : Int) := by omega
                  clear c24a c24b hS hT mrr tr hgo hgi hsg hli
                  go_wp2_with fail
                  refine (unhide HL0).mono ?_
                  rintro e w3 ⟨rfl, rfl⟩
                  go_wp2_with fail
                  refine (unhide HL1).mono ?_
                  rintro e w3 ⟨rfl, rfl⟩
                  go_wp2_with fail
                  refine (unhide HR1).mono ?_
                  rintro e w3 ⟨rfl, rfl⟩
                  go_wp2_with fail
                  refine (unhide HR2).mono ?_
                  rintro e w3 ⟨rfl, rfl⟩
                  go_wp2_with fail
                  refine (free_calls tf).mono ?_
                  rintro e w3 ⟨rfl, rfl⟩
                  go_wp2_with fail
                  refine (fork_calls _ _ _).mono ?_
                  rintro e w5 ⟨gb, mg, rfl, hgb, hmg, hne5, t5, m5, k5⟩
                  have tf5 := tf.kept k5 (by simp)
                  have mf5 := mff.kept k5 (by simp)
                  have sl5 := hsl.kept k5 (by simp)
                  have pt5 := ptf.kept k5 (by simp)
                  have lq := ptf.lt
                  have hbel5 : Below w.heap.size w w5 := hbel.trans (k5.below hbel.size (by simp))
                  have HF := hide (resolve_up_free (B := w.heap.size) (recur := false) t5 m5 (unhide HX) rfl (Int.le_refl 0) (by decide) sl5 (unhide HX) (OwnsPtrs.nil w5 _) (by decide +kernel) (by simp) hbel5.size hne5 (resolve_hit tf5 mf5 (unhide HX) hlo sl5 true (.inr (.inr rfl))))
                  clear t5 m5 k5 tf5 mf5 sl5
                  go_wp2_with fail
                  refine (unhide HF).mono ?_
                  rintro e w6 ⟨fb6, fr6, rfl, hge, s6, t6, m6, o6, k6⟩
                  clear HF
                  have e0 := s6.c0
                  have e1 := s6.c1
                  have e2 : w6.cell? ⟨fb6, 2, none⟩ = some (.int .i64 0) := by simpa using s6.c2
                  have lb := hbel.size
                  have pt6 := pt5.kept k6 (by simp [Value.ownBlock]; omega)
                  have hbel6 : Below w.heap.size w w6 := hbel5.trans (k6.below hbel5.size (by simp [Value.ownBlock]; omega))
                  have cq := pt6.cell hlj
                  rcases o6.form with ⟨_, hnil⟩ | ⟨rb, cap6, cur, rfl, _, _⟩
                  · simp at hnil
                  have cf : w6.cell? ⟨rb, 0, none⟩ = some (sptr lg) := o6.cell (by simp)
                  simp only [List.nil_append, List.length_singleton] at t6
                  clear o6 k6 pt5 pt6 s6 m6 hbel5
                  go_wp2_with fail
                  refine (free_calls t6).mono ?_
                  rintro e w7 ⟨rfl, rfl⟩
                  go_wp2_with fail
                  go_quiet (fail)
                  go_wp2_with fail
                  go_ret
                  exact ⟨rfl, below_drewN hbel6 _⟩
end Go.Proofs.Yoefew
