import Derived.Test.Qxb6604722aW12
namespace Go.Proofs.Qxb6604722a
open Go.RowKit Lx
set_option maxHeartbeats 10000000
set_option maxRecDepth 100000
set_option linter.unusedSimpArgs false
set_option linter.unusedVariables false

theorem read_op_yes (b : Nat) (src : ByteArray) (pos : Nat) (mk : Bool) (md : Nat) (w : World) (hs : src.size ≤ 1048576) (hp : pos < src.size) (e63 : (bAt src pos == 63) = true) (hmk : mk = false) (ho : opB mk (bAt src pos) = true) (hx : LexAt b w src pos mk md) :
    Calls Try.prog 32 #[.pointer (some ⟨b, 0, none⟩)] w (RPost b w src mk (readF src mk pos md)) := by
  have hcb := bAt_bd src pos
  have h63 : ¬ (bAt src pos = 63 ∧ mk = true) := by
    intro h
    simp [hmk] at h
  obtain ⟨h128, hw, hd, h46, h39, h34, h59, h58⟩ := op_facts mk _ hcb.1 hcb.2 ho
  have hn : numB src pos = false := by simp [numB, hd, h46]
  obtain ⟨E, hE⟩ : ∃ E, opEnd src mk src.size (pos + 1) = E := ⟨_, rfl⟩
  obtain ⟨F, hF⟩ : ∃ F, opStop src mk pos = F := ⟨_, rfl⟩
  have hR : readF src mk pos md = ({ kind := 6, pos := 0, text := src.extract pos F, val := src.extract pos F, n := 0 }, F, md) := by
    rw [readF, if_neg (by omega), if_neg (by simp [hw]), if_neg (by simp [hn]), if_neg h39, if_neg h34, if_neg h59, if_neg (fun h => h58 h.1), if_neg h63, if_pos ho, hF]
  rw [hR]
  clear hR hn
  have hE1 := opEnd_bd src mk src.size (pos + 1) (by omega)
  rw [hE] at hE1
  have hFv : F = if Lib.containsAny (src.extract pos E).data.toList special = true then E else opTrim src pos src.size E := by
    rw [← hF, opStop, hE]
  have HF : Hid (F = if Lib.containsAny (src.extract pos E).data.toList special = true then E else opTrim src pos src.size E) := hFv
  have HE : Hid (opEnd src mk src.size (pos + 1) = E) := hE
  have hFb := opStop_bd src mk pos hp
  rw [hF] at hFb
  have HFB : Hid (pos ≤ F ∧ F ≤ src.size) := ⟨by omega, hFb.2⟩
  clear hF hE hFv hFb
  have e39 : (bAt src pos == 39) = false := beq_eq_false_iff_ne.2 h39
  have e34 : (bAt src pos == 34) = false := beq_eq_false_iff_ne.2 h34
  have e59 : (bAt src pos == 59) = false := beq_eq_false_iff_ne.2 h59
  have e58 : (bAt src pos == 58) = false := beq_eq_false_iff_ne.2 h58
  have e46 : (bAt src pos == 46) = false := beq_eq_false_iff_ne.2 h46
  clear h39 h34 h59 h58 h46 h63 hcb
  have hsm : src.size ≤ maxLen := by unfold maxLen; omega
  have hlb := hx.lt
  have hB : ∀ (k : Nat) (h : k < src.size), ((src[k]'h).toNat : Int) = bAt src k := fun k h => (bAt_eq src k h).symm
  have hc := bAt_bd src pos
  have HS : Hid (TokW b w (w.alloc tok0) src pos mk md) := TokW.start hx
  have c0 := fun o => (hx.alloc o).c0
  have c1 := fun o => (hx.alloc o).c1
  go_enter Try.func32, Try.ntmps32
  go_wp2
  go_quiet (fail)
  have TW : Hid (TokW b w ((w.alloc tok0).drewN nq) src pos mk md) := HS.out.drewN nq
  generalize (w.alloc tok0).drewN nq = w1 at TW ⊢
  clear HS c0 c1
  have c0 := TW.out.lex.c0
  have c1 := TW.out.lex.c1
  have c2 := TW.out.lex.c2
  have c3 := TW.out.lex.c3
  have f1 := TW.out.lex.f1
  have f3 := TW.out.lex.f3
  obtain ⟨t0, t1, t2, t3, t4⟩ := TW.out.tok.cells
  have tf := TW.out.tok.free
  go_upto_region 30 with (first | (go_at_call 40; refine (isWordStart_is _ false _ hc.1 hc.2 hw).mono ?_; rintro e w' ⟨rfl, rfl⟩) | (go_at_call 43; refine (isDigit_is _ false _ hc.1 hc.2 hd).mono ?_; rintro e w' ⟨rfl, rfl⟩) | (go_at_call 45; refine (operatorChar_is b src pos mk md _ true _ hc.1 hc.2 TW.out.lex ho).mono ?_; rintro e w' ⟨rfl, rfl⟩))
  go_cut [] (fun wc => Hid (TokW b w wc src (pos + 1) mk md))
  case first =>
    go_wp2
    go_meet
    case rel => exact TW.out.move hlb (pos + 1) _ (by omega)
  case rest =>
    clear TW c0 c1 c2 c3 f1 f3 t0 t1 t2 t3 t4 tf e39 e34 e59 e58 e46
    have TW0 := hcut
    clear hcut
    go_step
    go_step
    go_cut [] (fun wc => Hid (TokW b w wc src E mk md) ∧ Hid (∀ j, pos ≤ j → j < E → opB mk (bAt src j) = true))
    case first =>
      go_step
      go_loopg [] src.size (fun g wr => ∃ (p : Nat), p ≤ src.size ∧ pos < p ∧ src.size ≤ g + p ∧ Hid (opEnd src mk g p = E) ∧ Hid (∀ j, pos ≤ j → j < p → opB mk (bAt src j) = true) ∧ Hid (TokW b w wr src p mk md))
      case atStart => exact ⟨pos + 1, by omega, by omega, by omega, HE, fun j h1 h2 => by rw [show j = pos from by omega]; exact ho, TW0⟩
      case round =>
        as_aux_lemma =>
        clear TW0
        obtain ⟨p, hp1, hp2, hn, hG, hall, TW⟩ := hrel
        have c0 := TW.out.lex.c0
        have c1 := TW.out.lex.c1
        have f1 := TW.out.lex.f1
        have hcp := bAt_bd src p
        have stop : (¬ (p < src.size ∧ opB mk (bAt src p) = true ∧ com src p = false)) → p = E := fun h => (opEnd_stop src mk gk p h).symm.trans hG.out
        have STOP : Hid ((¬ (p < src.size ∧ opB mk (bAt src p) = true ∧ com src p = false)) → p = E) := stop
        clear stop
        by_cases hlt : p < src.size
        · cases hq : opB mk (bAt src p) with
          | true =>
            cases hco : com src p with
            | false =>
              obtain ⟨m, rfl⟩ : ∃ m, gk = m + 1 := ⟨gk - 1, by omega⟩
              have HG : Hid (opEnd src mk m (p + 1) = E) := (opEnd_step src mk m p hlt hq hco).symm.trans hG.out
              have HALL : Hid (∀ j, pos ≤ j → j < p + 1 → opB mk (bAt src j) = true) := fun j h1 h2 => by
                by_cases e : j = p
                · subst e; exact hq
                · exact hall.out j h1 (by omega)
              go_wp2
              go_quiet ((first | (go_at_call 45; exact quiet_is (operatorChar_is b src p mk md _ true _ hcp.1 hcp.2 (TW.out.lex.drewN _) hq)) | (go_at_call 46; exact Calls.quiet_of (commentAhead_is b src p mk md false _ hsm hp1 (TW.out.lex.drewN _) hco))))
              go_wp2
              go_roundg m
              case rel => exact ⟨p + 1, by omega, by omega, by omega, HG, HALL, (TW.out.drewN _).move hlb (p + 1) _ (by omega)⟩
              case measure => omega
            | true =>
              have hpE : p = E := STOP.out (by simp [hco])
              subst hpE
              go_wp2
              go_quiet ((first | (go_at_call 45; exact quiet_is (operatorChar_is b src p mk md _ true _ hcp.1 hcp.2 (TW.out.lex.drewN _) hq)) | (go_at_call 46; exact Calls.quiet_of (commentAhead_is b src p mk md true _ hsm hp1 (TW.out.lex.drewN _) hco))))
              go_wp2
              go_meet
              case rel => exact ⟨TW.out.drewN _, hall⟩
          | false =>
            have hpE : p = E := STOP.out (by simp [hq])
            subst hpE
            go_wp2
            go_quiet ((first | (go_at_call 45; exact quiet_is (operatorChar_is b src p mk md _ false _ hcp.1 hcp.2 (TW.out.lex.drewN _) hq))))
            go_wp2
            go_meet
            case rel => exact ⟨TW.out.drewN _, hall⟩
        · have hpE : p = E := STOP.out (by omega)
          subst hpE
          have hdp : decide ((p : Int) < (src.size : Int)) = false := by simp; omega
          go_wp2
          go_quiet (fail)
          go_wp2
          go_meet
          case rel => exact ⟨TW.out.drewN _, hall⟩
    case rest =>
      clear TW0 HE
      obtain ⟨TW, hall⟩ := hcut
      have c0 := TW.out.lex.c0
      have c1 := TW.out.lex.c1
      have hasc := op_ascii src mk pos E hE1.2 hall.out
      have HASC : Hid (∀ (j : Nat) b, (src.extract pos E).data.toList[j]? = some b → b.toNat < 128) := hasc
      clear hasc hall
      obtain ⟨CA, hCA⟩ : ∃ CA, Lib.containsAny (src.extract pos E).data.toList special = CA := ⟨_, rfl⟩
      have hFF : F = if CA = true then E else opTrim src pos src.size E := by rw [← hCA]; exact HF.out
      have HCA : Hid (Lib.containsAny (src.extract pos E).data.toList special = CA) := hCA
      have HFF : Hid (F = if CA = true then E else opTrim src pos src.size E) := hFF
      clear hCA hFF HF
      have hesz : (src.extract pos E).size ≤ 1048576 := by
        have h1 : (src.extract pos E).size = min E src.size - pos := ByteArray.size_extract
        omega
      have HSZ : Hid ((src.extract pos E).size ≤ 1048576) := hesz
      clear hesz
      go_step
      go_step
      go_cut [] (fun wc => Hid (TokW b w wc src F mk md))
      case first =>
        go_step
        have hsl := fun wx => run_slice_string (P := Try.prog) (w := wx) 9 src .i64 .i64 pos E Try.underlying9 (by omega) (by omega) (by omega)
        simp only [Int.toNat_natCast] at hsl
        refine still_tail 10 mixed (by kernel_rfl) ?_
        simp only [List.take_succ_cons, List.take_zero, List.drop_succ_cons, List.drop_zero]
        repeat still_step
        refine wpStill_nil ?_
        go_wp2_with fail
        refine (containsAny_is _ CA _ HSZ.out HASC.out HCA.out).mono ?_
        rintro e w2 ⟨rfl, hbel⟩
        have TW2 : Hid (TokW b w w2 src E mk md) := (TW.out.drewN 1).below hlb hbel
        clear hbel hsl TW c0 c1 HSZ HASC HCA
        cases CA with
        | true =>
          have hFE : F = E := by rw [HFF.out, if_pos rfl]
          go_wp2
          go_meet
          case rel => exact (show Hid (TokW b w w2 src F mk md) from by rw [hFE]; exact TW2)
        | false =>
          have HT : Hid (opTrim src pos src.size E = F) := by rw [HFF.out]; exact (if_neg (by decide)).symm
          clear HFF
          go_wp2
          go_loopg [] src.size (fun g wr => ∃ (i : Nat), pos < i ∧ i ≤ E ∧ i ≤ g + pos + 1 ∧ Hid (opTrim src pos g i = F) ∧ Hid (TokW b w wr src i mk md))
          case atStart => exact ⟨E, by omega, by omega, by omega, HT, TW2⟩
          case round =>
            as_aux_lemma =>
            clear TW2 HT
            obtain ⟨i, hi1, hi2, hn, hG, TW⟩ := hrel
            have stop : ¬ (pos + 1 < i ∧ (bAt src (i - 1) = 43 ∨ bAt src (i - 1) = 45)) → i = F := fun h => (opTrim_stop src pos gk i h).symm.trans hG.out
            have STOP : Hid (¬ (pos + 1 < i ∧ (bAt src (i - 1) = 43 ∨ bAt src (i - 1) = 45)) → i = F) := stop
            have step : ∀ m, gk = m + 1 → pos + 1 < i → (bAt src (i - 1) = 43 ∨ bAt src (i - 1) = 45) → opTrim src pos m (i - 1) = F := fun m e h1 h2 => by
              subst e
              exact (opTrim_step src pos m i h1 h2).symm.trans hG.out
            have STEP : Hid (∀ m, gk = m + 1 → pos + 1 < i → (bAt src (i - 1) = 43 ∨ bAt src (i - 1) = 45) → opTrim src pos m (i - 1) = F) := step
            clear stop step hG
            obtain ⟨j, rfl⟩ : ∃ j, i = j + 1 := ⟨i - 1, by omega⟩
            rw [show j + 1 - 1 = j from by omega] at STOP STEP
            have c0 := TW.out.lex.c0
            have c1 := TW.out.lex.c1
            have f1 := TW.out.lex.f1
            have hcj := bAt_bd src j
            by_cases hlt : pos + 1 < j + 1
            · have hdl : decide ((1 : Int) < ((j : Int) + 1) - (pos : Int)) = true := by simp; omega
              by_cases h43 : bAt src j = 43
              · have e43 : (bAt src j == 43) = true := by simp [h43]
                obtain ⟨m, rfl⟩ : ∃ m, gk = m + 1 := ⟨gk - 1, by omega⟩
                have HG : Hid (opTrim src pos m j = F) := STEP.out m rfl hlt (.inl h43)
                clear STEP STOP h43
                go_wp2
                go_quiet (fail)
                go_wp2
                go_roundg m
                case rel => exact ⟨j, by omega, by omega, by omega, HG, (TW.out.drewN _).move hlb j _ (by omega)⟩
                case measure => omega
              · have e43 : (bAt src j == 43) = false := beq_eq_false_iff_ne.2 h43
                by_cases h45 : bAt src j = 45
                · have e45 : (bAt src j == 45) = true := by simp [h45]
                  obtain ⟨m, rfl⟩ : ∃ m, gk = m + 1 := ⟨gk - 1, by omega⟩
                  have HG : Hid (opTrim src pos m j = F) := STEP.out m rfl hlt (.inr h45)
                  clear STEP STOP h43 h45
                  go_wp2
                  go_quiet (fail)
                  go_wp2
                  go_roundg m
                  case rel => exact ⟨j, by omega, by omega, by omega, HG, (TW.out.drewN _).move hlb j _ (by omega)⟩
                  case measure => omega
                · have e45 : (bAt src j == 45) = false := beq_eq_false_iff_ne.2 h45
                  have hjF : j + 1 = F := STOP.out (fun h => h.2.elim h43 h45)
                  subst hjF
                  clear STEP STOP h43 h45
                  go_wp2
                  go_quiet (fail)
                  go_wp2
                  go_meet
                  case rel => exact TW.out.drewN _
            · have hdl : decide ((1 : Int) < ((j : Int) + 1) - (pos : Int)) = false := by simp; omega
              have hjF : j + 1 = F := STOP.out (fun h => hlt h.1)
              subst hjF
              clear STEP STOP
              go_wp2
              go_quiet (fail)
              go_wp2
              go_meet
              case rel => exact TW.out.drewN _
      case rest =>
        clear TW c0 c1 HSZ HASC HCA HFF
        have TW := hcut
        clear hcut
        have hF1 : pos ≤ F ∧ F ≤ src.size := HFB.out
        have hsl := fun wx => run_slice_string (P := Try.prog) (w := wx) 9 src .i64 .i64 pos F Try.underlying9 (by omega) (by omega) (by omega)
        simp only [Int.toNat_natCast] at hsl
        have c0 := TW.out.lex.c0
        have c1 := TW.out.lex.c1
        obtain ⟨t0, t1, t2, t3, t4⟩ := TW.out.tok.cells
        have tf := TW.out.tok.free
        go_wp2
        go_quiet (fail)
        go_wp2
        exact tok_end (by kernel_rfl) (TW.out.drewN _) hlb { kind := 6, pos := 0, text := src.extract pos F, val := src.extract pos F, n := 0 } _ rfl _ rfl rfl

end Go.Proofs.Qxb6604722a
