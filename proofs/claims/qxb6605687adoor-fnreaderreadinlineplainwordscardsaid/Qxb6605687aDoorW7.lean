/- splitInline. -/
import Derived.Test.Qxb6605687aDoorW7q
namespace Go.Proofs.Qxb6605687aDoor
open Go.RowKit
set_option maxHeartbeats 200000000
set_option maxRecDepth 100000
set_option linter.unusedSimpArgs false
set_option linter.unusedVariables false

variable {h D cap : Nat} {xs : List Int} {W : World} {s : St} {lb lo : Nat} {l L : List Int} {A : List Int} {vs : List Value} {args : List (List Int)}

theorem wd_grow : ∀ (g : Nat) (l : List Int) (q : Int) (A : List Int) (o : Option (List Int × Int)) (A' : List Int), wd g l q A = (o, A') → A.length ≤ A'.length
  | 0, l, q, A, o, A', h => by rw [wd] at h; simp at h; rw [h.2]; exact Nat.le_refl _
  | g + 1, [], q, A, o, A', h => by rw [wd] at h; simp at h; rw [h.2]; exact Nat.le_refl _
  | g + 1, c :: r, q, A, o, A', h => by
    rw [wd_cons] at h
    split at h
    · simp at h; rw [h.2]; exact Nat.le_refl _
    · split at h
      · exact wd_grow g r _ _ _ _ h
      · split at h
        · split at h
          · simp at h; rw [h.2]; exact Nat.le_refl _
          · simp at h; rw [h.2]; exact Nat.le_refl _
        · split at h
          · have := wd_grow g _ _ _ _ _ h; simp at this; omega
          · split at h
            · have := wd_grow g _ _ _ _ _ h; simp at this; omega
            · split at h
              · have := wd_grow g _ _ _ _ _ h; simp at this; omega
              · have := wd_grow g _ _ _ _ _ h; simp at this; omega

theorem split_any (H : RS h D cap xs W s) (HR : Rows3 (h + 5) W s.ag s.ar s.lg A vs args L) (HLN : LN W s.ag s.ar lb lo l) (hlb : lb ≠ h + 4) (hby : By l) (hn : l.length ≤ 2000000) (cp : Nat) (hcp : l.length ≤ cp) (hA : A.length ≤ 2000000) (hV : vs.length ≤ 2000000) :
    Calls Tryd.prog 55 #[.pointer (some ⟨h + 4, 0, none⟩), .slice (some ⟨lb, lo, none⟩) l.length cp] W (Split h D cap xs W s L (split l A args)) := by
  have HW : Hid (WS h D cap xs W s lb lo l L W s.ag s.ar A vs args) := ⟨H, HR, HLN, Below.refl h W⟩
  have HBY : Hid (By l) := hby
  have HC : Hid (∀ v, (match fi l 0 with | some k => (k : Int) | none => -1) = v → Calls Tryd.prog 67 #[.slice (some ⟨lb, lo, none⟩) l.length cp, .int .u8 0] W fun e w' => e = .returned (.int .i64 v) ∧ w' = W) := fun v hv =>
    indexByte_is lb lo l.length cp l 0 v W rfl hby (by omega) HLN.c hv
  clear H HR HLN hby
  go_enter Tryd.func55, Tryd.ntmps55
  go_upto_region 0 with fail
  go_step
  go_step
  go_step
  go_step
  go_step
  go_step
  go_step
  go_step
  go_cut [1] (fun v1 wc => v1 = .slice (some ⟨lb, lo, none⟩) (toNul l).length cp ∧ wc = W)
  case first =>
    as_aux_lemma =>
    cases hf : fi l 0 with
    | some k =>
      have hk := fi_lt hf
      have htn : (toNul l).length = k := by simp [toNul, hf]; omega
      rw [hf] at HC
      have hsl := slice24_h lb lo l.length cp k (by omega)
      go_wp2_with fail
      refine (HC.out _ rfl).mono ?_
      rintro e w1 ⟨rfl, rfl⟩
      clear HC
      go_wp2
      go_meet
      case rel => exact ⟨by rw [htn], rfl⟩
    | none =>
      have htn : (toNul l).length = l.length := by simp [toNul, hf]
      rw [hf] at HC
      go_wp2_with fail
      refine (HC.out _ rfl).mono ?_
      rintro e w1 ⟨rfl, rfl⟩
      clear HC
      go_wp2
      go_meet
      case rel => exact ⟨by rw [htn], rfl⟩
  case rest =>
    as_aux_lemma =>
    obtain ⟨rfl, hWc⟩ := hcut
    have hWc' := hWc.symm
    subst hWc'
    clear HC
    obtain ⟨k0, hk0, hnul⟩ := toNul_pre l
    have HT : Hid (spl ((toNul l).length + 1) (toNul l) A args = split l A args) := rfl
    have hlen : (toNul l).length ≤ l.length := by rw [hnul, List.length_take]; omega
    have HWS : Hid (WS h D cap xs W s lb lo (toNul l) L W s.ag s.ar A vs args) := by
      refine ⟨HW.out.rs, HW.out.rows, ⟨fun j hj => ?_, HW.out.ln.lt, HW.out.ln.na, HW.out.ln.ng⟩, HW.out.bel⟩
      have := HW.out.ln.c j (by omega)
      rw [this]
      congr 2
      rw [hnul] at hj ⊢
      rw [List.length_take] at hj
      simp only [List.getD_eq_getElem?_getD, List.getElem?_take]
      rw [if_pos (by omega)]
    have HBL : Hid (By (toNul l)) := by rw [hnul]; exact HBY.out.take k0
    generalize split l A args = T at *
    generalize toNul l = l1 at *
    clear HW HBY hnul
    have HO : Hid (Out h D cap xs W s lb lo l1 L T A.length vs.length (l1.length + 1) (.int .i64 0) W) := ⟨0, _, _, _, _, _, rfl, Nat.zero_le _, HWS.out, HT.out, by omega, by omega, by omega⟩
    clear HWS HT
    go_wp2
    go_loopg [6] (l1.length + 1) (fun g v6 wr => Hid (Out h D cap xs W s lb lo l1 L T A.length vs.length g v6 wr))
    case atStart => exact HO
    case round =>
      as_aux_lemma =>
      clear HO
      obtain ⟨i, ag, ar, A1, vs1, args1, rfl, hi, HWS, hT, hg, hA1, hV1⟩ := hrel
      have HS : Hid (WS h D cap xs W s lb lo l1 L wr ag ar A1 vs1 args1) := HWS
      have HT : Hid (spl gk (l1.drop i) A1 args1 = T) := hT
      clear HWS hT
      go_step
      apply wp_scope_straight
      go_step
      go_cut [6] (fun v6 w2 => ∃ j : Nat, v6 = .int .i64 (j : Int) ∧ i ≤ j ∧ j ≤ l1.length ∧ Hid (skp (l1.drop i) = l1.drop j) ∧ Hid (j < l1.length → isSp (l1.getD j 0) = false) ∧ w2 = wr)
      case first =>
        as_aux_lemma =>
        have HLN : Hid (LN wr ag ar lb lo l1) := HS.out.ln
        clear HS HT
        go_step
        go_loopg [6] (l1.length + 1) (fun g v6 w2 => ∃ j : Nat, v6 = .int .i64 (j : Int) ∧ i ≤ j ∧ j ≤ l1.length ∧ Hid (skp (l1.drop i) = skp (l1.drop j)) ∧ l1.length < g + j ∧ w2 = wr)
        case atStart => exact ⟨i, rfl, Nat.le_refl _, hi, rfl, by omega, rfl⟩
        case round =>
          as_aux_lemma =>
          obtain ⟨j, rfl, hij, hj, hsk, hgj, rfl⟩ := hrel
          have HSK : Hid (skp (l1.drop i) = skp (l1.drop j)) := hsk
          clear hsk
          rcases Nat.lt_or_ge j l1.length with hlt | hge
          · have c1 := HLN.out.c j hlt
            have hd : decide ((j : Int) < l1.length) = true := by simp; omega
            generalize hcj : l1.getD j 0 = cj at *
            cases hs : isSp cj with
            | true =>
              go_wp2_with (go_at_call 68; refine (isSpace_is cj true _ hs).mono ?_; rintro e w' ⟨rfl, rfl⟩)
              go_roundg (gk - 1)
              case rel => exact ⟨j + 1, by go_num, by omega, by omega, HSK.out.trans (skp_sp l1 j hlt (by rw [hcj]; exact hs)), by omega, rfl⟩
              case measure => omega
            | false =>
              go_wp2_with (go_at_call 68; refine (isSpace_is cj false _ hs).mono ?_; rintro e w' ⟨rfl, rfl⟩)
              go_meet
              case rel => exact ⟨j, rfl, hij, hj, HSK.out.trans (skp_no l1 j (fun _ => by rw [hcj]; exact hs)), fun _ => by rw [hcj]; exact hs, rfl⟩
          · have hd : decide ((j : Int) < l1.length) = false := by simp; omega
            go_wp2
            go_meet
            case rel => exact ⟨j, rfl, hij, hj, HSK.out.trans (skp_no l1 j (fun h => by omega)), fun h => by omega, rfl⟩
      case rest =>
        as_aux_lemma =>
        obtain ⟨j, rfl, hij, hj, HSK, HNS, hwc⟩ := hcut
        have hwc' := hwc.symm
        subst hwc'
        obtain ⟨g1, rfl⟩ : ∃ g1, gk = g1 + 1 := ⟨gk - 1, by omega⟩
        rcases Nat.lt_or_ge j l1.length with hlt | hge
        · have hne : ((j : Int) == l1.length) = false := by rw [beq_eq_false_iff_ne]; omega
          have r3 := HS.out.rs.r3
          have HAR : Hid (ar = ar) := rfl
          obtain ⟨pa, ca, har⟩ : ∃ pa ca, ar = .slice pa A1.length ca := by
            rcases HS.out.rows.oa.2 with ⟨h1, h2⟩ | ⟨g, cp2, cur, h1, _⟩
            · exact ⟨none, 0, by rw [h1, h2]⟩
            · exact ⟨_, _, h1⟩
          rw [har] at r3
          obtain ⟨T2, hT2⟩ : ∃ T2, wd ((l1.drop (j + 1)).length + 2) (l1.getD j 0 :: l1.drop (j + 1)) 0 A1 = T2 := ⟨_, rfl⟩
          have HT2 : Hid (wd ((l1.drop (j + 1)).length + 2) (l1.getD j 0 :: l1.drop (j + 1)) 0 A1 = T2) := hT2
          have HSK2 : Hid (skp (l1.drop i) = l1.getD j 0 :: l1.drop (j + 1)) := HSK.out.trans (drop_cons l1 j hlt)
          have HERR : Hid (∀ A', T2 = (none, A') → (false, A', args1) = T) := fun A' e => by
            rw [← HT.out]
            exact (spl_glued g1 _ A1 A' args1 _ _ HSK2.out (hT2.trans e)).symm
          have HWR : Hid (Wrd h D cap xs W s lb lo l1 L ag vs1 args1 T2 A.length j (l1.length + 1 - j) (.int .i64 (j : Int)) (.int .u8 0) wr) := ⟨j, 0, ar, A1, rfl, rfl, .inl rfl, Nat.le_refl _, hj, HS.out, by
            rw [drop_cons l1 j hlt, ← hT2]
            congr 1
            rw [List.length_drop]
            omega, by omega, by omega⟩
          clear hT2
          go_wp2
          go_step3
          go_step
          go_step
          go_step
          go_cut [6, 8] (fun v6 v8 w3 => Hid (Wrt h D cap xs W s lb lo l1 L ag vs1 args1 T2 A.length v6 v8 w3))
          case first =>
            as_aux_lemma =>
            clear HS HT HSK HNS r3 HAR HT2 HSK2
            go_step
            go_loopg [6, 8] (l1.length + 1 - j) (fun g v6 v8 w3 => Hid (Wrd h D cap xs W s lb lo l1 L ag vs1 args1 T2 A.length j g v6 v8 w3))
            case atStart => exact HWR
            case round =>
              as_aux_lemma =>
              clear HWR
              obtain ⟨k, q, ar2, A2, rfl, rfl, hq, hjk, hk, HWS, hW, hg2, hA2⟩ := hrel
              have HS : Hid (WS h D cap xs W s lb lo l1 L wr ag ar2 A2 vs1 args1) := HWS
              obtain ⟨g2, hg2'⟩ : ∃ g2, gk = g2 + 1 := ⟨gk - 1, by omega⟩
              subst hg2'
              rcases Nat.lt_or_ge k l1.length with hlt2 | hge2
              · rw [drop_cons l1 k hlt2, wd_cons] at hW
                have c0 := HS.out.ln.c k hlt2
                have HCN : Hid (∀ m, k + 1 + m < l1.length → wr.cell? ⟨lb, lo + (k + 1 + m), none⟩ = some (.int .u8 ((l1.drop (k + 1)).getD m 0))) := fun m hm => by
                  rw [HS.out.ln.c _ hm]
                  simp only [List.getD_eq_getElem?_getD, List.getElem?_drop]
                have hrl : (l1.drop (k + 1)).length = l1.length - (k + 1) := List.length_drop
                have HRE : Hid (l1.drop (k + 1) = [] ↔ l1.length = k + 1) := by
                  show _ ↔ _
                  rw [← List.length_eq_zero_iff, hrl]
                  omega
                have HD1 : Hid (∀ m, (l1.drop (k + 1)).drop m = l1.drop (k + 1 + m)) := fun m => by rw [List.drop_drop]
                have HW : Hid ((if q = 0 ∧ isBr (l1.getD k 0) = true then (some (l1.getD k 0 :: l1.drop (k + 1), q), A2)
                    else if q = 0 ∧ (l1.getD k 0 = 34 ∨ l1.getD k 0 = 39) then wd g2 (l1.drop (k + 1)) (l1.getD k 0) A2
                    else if l1.getD k 0 = q then (if l1.drop (k + 1) = [] ∨ isSp ((l1.drop (k + 1)).getD 0 0) = true then (some (l1.drop (k + 1), 0), A2) else (none, A2))
                    else if hexAt q (l1.getD k 0) (l1.drop (k + 1)) = true then wd g2 ((l1.drop (k + 1)).drop 3) q (A2 ++ [16 * uhx ((l1.drop (k + 1)).getD 1 0) + uhx ((l1.drop (k + 1)).getD 2 0)])
                    else if q = 34 ∧ l1.getD k 0 = 92 ∧ l1.drop (k + 1) ≠ [] then wd g2 ((l1.drop (k + 1)).drop 1) q (A2 ++ [ues ((l1.drop (k + 1)).getD 0 0)])
                    else if q = 39 ∧ l1.getD k 0 = 92 ∧ l1.drop (k + 1) ≠ [] ∧ (l1.drop (k + 1)).getD 0 0 = 39 then wd g2 ((l1.drop (k + 1)).drop 1) q (A2 ++ [39])
                    else wd g2 (l1.drop (k + 1)) q (A2 ++ [l1.getD k 0])) = T2) := hW
                have hcb : 0 ≤ l1.getD k 0 ∧ l1.getD k 0 ≤ 255 := HBL.out _ (by simp [hlt2])
                clear hW HWS
                have hd : decide ((k : Int) < l1.length) = true := by simp; omega
                have HR : Hid (l1.drop k = l1.getD k 0 :: l1.drop (k + 1)) := drop_cons l1 k hlt2
                generalize l1.getD k 0 = ck at *
                generalize hr : l1.drop (k + 1) = r at *
                have r3 : wr.cell? ⟨h + 4, 3, none⟩ = some ar2 := HS.out.rs.r3
                obtain ⟨pa2, ca2, har2⟩ := own_form HS.out.rows.oa
                subst har2
                obtain ⟨i0, hi0, hz0, hz1, hz2⟩ := info_parts info5
                have hb1 : A2.length + 1 ≤ maxLen := by unfold maxLen; omega
                have hb2 : (A2.length + 1) * 1 ≤ 140737488355328 := by omega
                have hln1 : l1.length ≤ 2000000 := by omega
                rcases hq with rfl | rfl | rfl
                · by_cases hbr : isBr ck = true
                  · as_aux_lemma =>
                    have hT : (some (l1.drop k, 0), A2) = T2 := by have := HW.out; rw [if_pos ⟨rfl, hbr⟩, ← HR.out] at this; exact this
                    simp only [isBr, Bool.or_eq_true, beq_iff_eq] at hbr
                    rcases hbr with ((rfl | rfl) | rfl) | rfl
                    all_goals
                      go_wp2
                      go_meet
                      case rel => exact ⟨k, 0, _, A2, rfl, rfl, hk, HS.out, hT.symm, hA2⟩
                  · by_cases hqt : ck = 34 ∨ ck = 39
                    · as_aux_lemma =>
                      have hW2 : wd g2 r ck A2 = T2 := by have := HW.out; rw [if_neg (fun h => hbr h.2), if_pos ⟨rfl, hqt⟩] at this; exact this
                      have hW3 : Hid (wd g2 (l1.drop (k + 1)) ck A2 = T2) := by show _ = _; rw [hr]; exact hW2
                      clear hW2
                      rcases hqt with rfl | rfl
                      all_goals
                        go_wp2
                        go_roundg g2
                        case rel => exact ⟨k + 1, _, _, A2, by go_num, rfl, by simp, by omega, by omega, HS.out, hW3.out, by omega, by omega⟩
                        case measure => omega
                    · by_cases hz : ck = 0
                      · subst hz
                        as_aux_lemma =>
                        have hW2 := HW.out
                        rw [if_neg (by simp [isBr]), if_neg (by simp), if_pos rfl] at hW2
                        by_cases hnx : k + 1 < l1.length
                        · obtain ⟨d, hd1⟩ : ∃ d, r.getD 0 0 = d := ⟨_, rfl⟩
                          have c1 : wr.cell? ⟨lb, lo + (k + 1), none⟩ = some (.int .u8 d) := by have := HCN.out 0 (by omega); rw [hd1] at this; exact this
                          have hlt1 : decide ((k : Int) + 1 < l1.length) = true := by simp; omega
                          cases hs : isSp d with
                          | true =>
                            have hT : (some (r, 0), A2) = T2 := by rw [if_pos (.inr (by rw [hd1]; exact hs))] at hW2; exact hW2
                            clear hW2 hd1
                            go_wp2_with (go_at_call 68; refine (isSpace_is d true _ hs).mono ?_; rintro e w' ⟨rfl, rfl⟩)
                            go_meet
                            case rel => exact ⟨k + 1, 0, _, A2, by go_num, rfl, by omega, HS.out, by rw [hr]; exact hT.symm, by omega⟩
                          | false =>
                            have hT : (none, A2) = T2 := by
                              rw [if_neg (by rintro (h1 | h1); exact absurd (HRE.out.1 h1) (by omega); rw [hd1, hs] at h1; cases h1)] at hW2
                              exact hW2
                            have hTT := HERR.out A2 hT.symm
                            clear hW2 hd1
                            go_wp2_with (go_at_call 68; refine (isSpace_is d false _ hs).mono ?_; rintro e w' ⟨rfl, rfl⟩)
                            go_ret
                            exact ⟨_, ag, _, vs1, rfl, .inr ⟨by rw [← hTT], _, rfl⟩, (HS.out.alloc _).rs, by rw [← hTT]; exact (HS.out.alloc _).rows, (HS.out.alloc _).bel⟩
                        · have hT : (some (r, 0), A2) = T2 := by rw [if_pos (.inl (HRE.out.2 (by omega)))] at hW2; exact hW2
                          have hlt1 : decide ((k : Int) + 1 < l1.length) = false := by simp; omega
                          clear hW2
                          go_wp2
                          go_meet
                          case rel => exact ⟨k + 1, 0, _, A2, by go_num, rfl, by omega, HS.out, by rw [hr]; exact hT.symm, by omega⟩
                      · as_aux_lemma =>
                        have hW2 := HW.out
                        rw [if_neg (fun h => hbr h.2), if_neg (fun h => hqt h.2), if_neg hz, if_neg (by simp [hexAt]), if_neg (by simp), if_neg (by simp)] at hW2
                        simp only [isBr, Bool.or_eq_true, beq_iff_eq, not_or] at hbr hqt
                        have e32 : (ck == 32) = false := beq_eq_false_iff_ne.2 hbr.1.1.1
                        have e9 : (ck == 9) = false := beq_eq_false_iff_ne.2 hbr.1.1.2
                        have e13 : (ck == 13) = false := beq_eq_false_iff_ne.2 hbr.1.2
                        have e10 : (ck == 10) = false := beq_eq_false_iff_ne.2 hbr.2
                        have e34 : (ck == 34) = false := beq_eq_false_iff_ne.2 hqt.1
                        have e39 : (ck == 39) = false := beq_eq_false_iff_ne.2 hqt.2
                        have e0 : (ck == 0) = false := beq_eq_false_iff_ne.2 hz
                        clear hbr hqt hz
                        have HSA : Hid (WS h D cap xs W s lb lo l1 L (wr.alloc (.cells #[.int .u8 ck] 5)) ag (.slice pa2 A2.length ca2) A2 vs1 args1) := HS.out.alloc _
                        have hW3 : Hid (wd g2 (l1.drop (k + 1)) 0 (A2 ++ [ck]) = T2) := by
                          have := hW2
                          rw [hr]
                          exact this
                        clear hW2
                        go_wp2_with (at_builtin; refine wpList_append_two _ (by rfl) _ _ 24 (by rfl) (h + 5) 5 i0 (.int .u8 0) 1 Tryd.underlying24 hi0 hz0 hz1 hz2 rfl (.slice pa2 A2.length ca2) A2.length (u8s A2) (by rfl) HSA.out.rows.oa ⟨wr.heap.size, 0, none⟩ 1 1 [.int .u8 ck] (by rfl) rfl (World.news_of_block (cs := #[.int .u8 ck]) (t := 5) (fr := (0, 0)) (heap_alloc_new wr _)) (by simp [Value.oneCell']) hb1 hb2 (Nat.succ_le_of_lt HSA.out.rs.lt) ?_; intro ar3 w3 hown hmv; obtain ⟨p3, c3, rfl⟩ := own_form hown; have hG := HSA.out.rs.grown hmv.grown (fun k hk => (HSA.out.rows.oa.lt k hk).1); have r33 := hG.r3; have f33 := hG.fR)
                        go_roundg g2
                        case rel => exact ⟨k + 1, 0, _, A2 ++ [ck], by go_num, rfl, by simp, by omega, by omega, HSA.out.putA hlb hown hmv, hW3.out, by omega, by simp; omega⟩
                        case measure => omega
                · by_cases h34 : ck = 34
                  · subst h34
                    as_aux_lemma =>
                    have hW2 := HW.out
                    rw [if_neg (by simp [isBr]), if_neg (by simp), if_pos rfl] at hW2
                    by_cases hnx : k + 1 < l1.length
                    · obtain ⟨d, hd1⟩ : ∃ d, r.getD 0 0 = d := ⟨_, rfl⟩
                      have c1 : wr.cell? ⟨lb, lo + (k + 1), none⟩ = some (.int .u8 d) := by have := HCN.out 0 (by omega); rw [hd1] at this; exact this
                      have hlt1 : decide ((k : Int) + 1 < l1.length) = true := by simp; omega
                      cases hs : isSp d with
                      | true =>
                        have hT : (some (r, 0), A2) = T2 := by rw [if_pos (.inr (by rw [hd1]; exact hs))] at hW2; exact hW2
                        clear hW2 hd1
                        go_wp2_with (go_at_call 68; refine (isSpace_is d true _ hs).mono ?_; rintro e w' ⟨rfl, rfl⟩)
                        go_meet
                        case rel => exact ⟨k + 1, 0, _, A2, by go_num, rfl, by omega, HS.out, by rw [hr]; exact hT.symm, by omega⟩
                      | false =>
                        have hT : (none, A2) = T2 := by
                          rw [if_neg (by rintro (h1 | h1); exact absurd (HRE.out.1 h1) (by omega); rw [hd1, hs] at h1; cases h1)] at hW2
                          exact hW2
                        have hTT := HERR.out A2 hT.symm
                        clear hW2 hd1
                        go_wp2_with (go_at_call 68; refine (isSpace_is d false _ hs).mono ?_; rintro e w' ⟨rfl, rfl⟩)
                        go_ret
                        exact ⟨_, ag, _, vs1, rfl, .inr ⟨by rw [← hTT], _, rfl⟩, (HS.out.alloc _).rs, by rw [← hTT]; exact (HS.out.alloc _).rows, (HS.out.alloc _).bel⟩
                    · have hT : (some (r, 0), A2) = T2 := by rw [if_pos (.inl (HRE.out.2 (by omega)))] at hW2; exact hW2
                      have hlt1 : decide ((k : Int) + 1 < l1.length) = false := by simp; omega
                      clear hW2
                      go_wp2
                      go_meet
                      case rel => exact ⟨k + 1, 0, _, A2, by go_num, rfl, by omega, HS.out, by rw [hr]; exact hT.symm, by omega⟩
                  · have e34 : (ck == 34) = false := beq_eq_false_iff_ne.2 h34
                    by_cases h92 : ck = 92
                    · subst h92
                      by_cases hnx : k + 1 < l1.length
                      · have hrn : r ≠ [] := fun h1 => absurd (HRE.out.1 h1) (by omega)
                        obtain ⟨x1, hx1e⟩ : ∃ x1, l1.getD (k + 1) 0 = x1 := ⟨_, rfl⟩
                        have HX1 : Hid (l1.getD (k + 1) 0 = x1) := hx1e
                        have HD0 : Hid (r.getD 0 0 = x1) := by show _ = _; rw [← hx1e, ← hr]; simp only [List.getD_eq_getElem?_getD, List.getElem?_drop, Nat.add_zero]
                        clear hx1e
                        have hlt1 : decide ((k : Int) + 1 < l1.length) = true := by simp; omega
                        by_cases h3 : k + 3 < l1.length
                        · obtain ⟨x2, hx2e⟩ : ∃ x2, l1.getD (k + 2) 0 = x2 := ⟨_, rfl⟩
                          obtain ⟨x3, hx3e⟩ : ∃ x3, l1.getD (k + 3) 0 = x3 := ⟨_, rfl⟩
                          have HX2 : Hid (l1.getD (k + 2) 0 = x2) := hx2e
                          have HX3 : Hid (l1.getD (k + 3) 0 = x3) := hx3e
                          have c1 : wr.cell? ⟨lb, lo + (k + 1), none⟩ = some (.int .u8 x1) := by rw [← HX1.out]; exact HS.out.ln.c _ (by omega)
                          have c2 : wr.cell? ⟨lb, lo + (k + 2), none⟩ = some (.int .u8 x2) := by rw [← hx2e]; exact HS.out.ln.c _ (by omega)
                          have c3 : wr.cell? ⟨lb, lo + (k + 3), none⟩ = some (.int .u8 x3) := by rw [← hx3e]; exact HS.out.ln.c _ (by omega)
                          have hd2 : r.getD 1 0 = x2 := by rw [← hx2e, ← hr]; simp only [List.getD_eq_getElem?_getD, List.getElem?_drop]
                          have hd3 : r.getD 2 0 = x3 := by rw [← hx3e, ← hr]; simp only [List.getD_eq_getElem?_getD, List.getElem?_drop]
                          have hlt3 : decide ((k : Int) + 3 < l1.length) = true := by simp; omega
                          have hr3 : decide (3 ≤ r.length) = true := by rw [hrl]; simp; omega
                          have hhex0 : hexAt 34 92 r = (x1 == 120 && isHx x2 && isHx x3) := by
                            unfold hexAt
                            rw [hr3, HD0.out, hd2, hd3]
                            simp
                          have HD2 : Hid (r.getD 1 0 = x2 ∧ r.getD 2 0 = x3) := ⟨hd2, hd3⟩
                          clear hd2 hd3 hr3 hx2e hx3e
                          cases e120 : (x1 == 120) with
                          | true =>
                            cases hx1 : isHx x2 with
                            | true =>
                              cases hx2 : isHx x3 with
                              | true =>
                                as_aux_lemma =>
                                have hhex : hexAt 34 92 r = true := by rw [hhex0, e120, hx1, hx2]; rfl
                                have hW2 := HW.out
                                rw [if_neg (by simp), if_neg (by simp), if_neg (by simp), if_pos hhex] at hW2
                                have hW3 : Hid (wd g2 (l1.drop (k + 4)) 34 (A2 ++ [16 * uhx x2 + uhx x3]) = T2) := by
                                  show _ = _
                                  rw [← hW2, HD1.out, HD2.out.1, HD2.out.2]
                                clear hW2 hhex hhex0
                                go_wp2_with fail
                                refine (isHex_is x2 true _ hx1).mono ?_
                                rintro e w' ⟨rfl, rfl⟩
                                go_wp2_with fail
                                refine (isHex_is x3 true _ hx2).mono ?_
                                rintro e w' ⟨rfl, rfl⟩
                                go_upto_region 24 with fail
                                refine region24 HS hlb hln1 cp k h3 (by omega) x2 x3 HX2.out HX3.out hx1 hx2 _ _ _ _ _ _ _ _ _ _ _ _ _ _ _ _ _ _ _ _ _ _ _ _ _ _ _ _ _ _ _ _ _ _ _ _ _ _ _ _ _ _ _ _ _ _ _ _ _ _ _ _ _ _ _ _ _ _ _ _ _ _ _ _ _ _ _ _ _ _ _ _ _ _ _ _ _ _ _ _ _ _ _ _ _ _ _ _ _ _ _ _ _ _ _ _ _ _ _ _ _ _ _ _ _ _ _ _ _ _ _ _ _ _ _ _ _ _ _ _ _ _ _ _ _ _ _ _ _ _ _ _ _ _ _ _ _ _ _ _ _ _ _ _ _ _ _ _ _ _ _ _ _ _ _ _ _ _ _ _ _ _ _ _ _ _ _ _ _ _ _ _ _ _ _ _ _ _ _ _ _ _ _ _ _ _ _ _ _ _ _ _ _ _ _ _ _ _ _ _ _ _ _ _ _ _ _ _ _ _ _ _ _ _ _ _ _ _ _ _ _ _ _ _ _ _ _ _ _ _ _ _ _ _ _ _ _ _ _ _ _ _ _ _ _ _ _ _ _ _ _ _ _ _ _ _ _ _ _ _ _ _ _ _ _ _ (fun _ _ d _ _ h => by cases d <;> exact h) ?_
                                intro ar3 w3 n0 n1 n2 n3 n4 n5 n6 n7 n8 n9 n10 n11 n12 n13 n14 n15 n16 n17 n18 n19 n20 n21 n22 hWS
                                go_wp2
                                go_roundg g2
                                case rel => exact ⟨k + 4, 34, ar3, A2 ++ [16 * uhx x2 + uhx x3], by go_num, rfl, by simp, by omega, by omega, hWS, hW3.out, by omega, by simp; omega⟩
                                case measure => omega
                              | false =>
                                have hhex : hexAt 34 92 r = false := by rw [hhex0, e120, hx1, hx2]; rfl
                                as_aux_lemma =>
                                have hW2 := HW.out
                                rw [if_neg (by simp), if_neg (by simp), if_neg (by simp), if_neg (by rw [hhex]; simp), if_pos ⟨rfl, rfl, hrn⟩] at hW2
                                have hW3 : Hid (wd g2 (l1.drop (k + 2)) 34 (A2 ++ [ues x1]) = T2) := by
                                  show _ = _
                                  rw [← hW2, HD1.out, HD0.out]
                                clear hW2 hhex
                                clear hhex0
                                go_wp2_with fail
                                refine (isHex_is x2 true _ hx1).mono ?_
                                rintro e w' ⟨rfl, rfl⟩
                                go_wp2_with fail
                                refine (isHex_is x3 false _ hx2).mono ?_
                                rintro e w' ⟨rfl, rfl⟩
                                go_upto_region 28 with fail
                                refine region28 HS hlb hln1 cp (k + 1) hnx (by omega) x1 HX1.out _ _ _ _ _ _ _ _ _ _ _ _ _ _ _ _ _ _ _ _ _ _ _ _ _ _ _ _ _ _ _ _ _ _ _ _ _ _ _ _ _ _ _ _ _ _ _ _ _ _ _ _ _ _ _ _ _ _ _ _ _ _ _ _ _ _ _ _ _ _ _ _ _ _ _ _ _ _ _ _ _ _ _ _ _ _ _ _ _ _ _ _ _ _ _ _ _ _ _ _ _ _ _ _ _ _ _ _ _ _ _ _ _ _ _ _ _ _ _ _ _ _ _ _ _ _ _ _ _ _ _ _ _ _ _ _ _ _ _ _ _ _ _ _ _ _ _ _ _ _ _ _ _ _ _ _ _ _ _ _ _ _ _ _ _ _ _ _ _ _ _ _ _ _ _ _ _ _ _ _ _ _ _ _ _ _ _ _ _ _ _ _ _ _ _ _ _ _ _ _ _ _ _ _ _ _ _ _ _ _ _ _ _ _ _ _ _ _ _ _ _ _ _ _ _ _ _ _ _ _ _ _ _ _ _ _ _ _ _ _ _ _ _ _ _ _ _ _ _ _ _ _ _ _ _ _ _ _ _ _ _ _ _ _ _ _ (fun _ _ d _ _ h => by cases d <;> exact h) ?_
                                intro ar3 w3 n0 n1 n2 n3 n4 n5 n6 n7 n8 n9 n10 n11 n12 n13 hWS
                                go_wp2
                                go_roundg g2
                                case rel => exact ⟨k + 2, 34, ar3, A2 ++ [ues x1], by go_num, rfl, by simp, by omega, by omega, hWS, hW3.out, by omega, by simp; omega⟩
                                case measure => omega
                            | false =>
                              have hhex : hexAt 34 92 r = false := by rw [hhex0, e120, hx1]; rfl
                              as_aux_lemma =>
                              have hW2 := HW.out
                              rw [if_neg (by simp), if_neg (by simp), if_neg (by simp), if_neg (by rw [hhex]; simp), if_pos ⟨rfl, rfl, hrn⟩] at hW2
                              have hW3 : Hid (wd g2 (l1.drop (k + 2)) 34 (A2 ++ [ues x1]) = T2) := by
                                show _ = _
                                rw [← hW2, HD1.out, HD0.out]
                              clear hW2 hhex
                              clear hhex0
                              go_wp2_with fail
                              refine (isHex_is x2 false _ hx1).mono ?_
                              rintro e w' ⟨rfl, rfl⟩
                              go_upto_region 28 with fail
                              refine region28 HS hlb hln1 cp (k + 1) hnx (by omega) x1 HX1.out _ _ _ _ _ _ _ _ _ _ _ _ _ _ _ _ _ _ _ _ _ _ _ _ _ _ _ _ _ _ _ _ _ _ _ _ _ _ _ _ _ _ _ _ _ _ _ _ _ _ _ _ _ _ _ _ _ _ _ _ _ _ _ _ _ _ _ _ _ _ _ _ _ _ _ _ _ _ _ _ _ _ _ _ _ _ _ _ _ _ _ _ _ _ _ _ _ _ _ _ _ _ _ _ _ _ _ _ _ _ _ _ _ _ _ _ _ _ _ _ _ _ _ _ _ _ _ _ _ _ _ _ _ _ _ _ _ _ _ _ _ _ _ _ _ _ _ _ _ _ _ _ _ _ _ _ _ _ _ _ _ _ _ _ _ _ _ _ _ _ _ _ _ _ _ _ _ _ _ _ _ _ _ _ _ _ _ _ _ _ _ _ _ _ _ _ _ _ _ _ _ _ _ _ _ _ _ _ _ _ _ _ _ _ _ _ _ _ _ _ _ _ _ _ _ _ _ _ _ _ _ _ _ _ _ _ _ _ _ _ _ _ _ _ _ _ _ _ _ _ _ _ _ _ _ _ _ _ _ _ _ _ _ _ _ _ (fun _ _ d _ _ h => by cases d <;> exact h) ?_
                              intro ar3 w3 n0 n1 n2 n3 n4 n5 n6 n7 n8 n9 n10 n11 n12 n13 hWS
                              go_wp2
                              go_roundg g2
                              case rel => exact ⟨k + 2, 34, ar3, A2 ++ [ues x1], by go_num, rfl, by simp, by omega, by omega, hWS, hW3.out, by omega, by simp; omega⟩
                              case measure => omega
                          | false =>
                            have hhex : hexAt 34 92 r = false := by rw [hhex0, e120]; rfl
                            as_aux_lemma =>
                            have hW2 := HW.out
                            rw [if_neg (by simp), if_neg (by simp), if_neg (by simp), if_neg (by rw [hhex]; simp), if_pos ⟨rfl, rfl, hrn⟩] at hW2
                            have hW3 : Hid (wd g2 (l1.drop (k + 2)) 34 (A2 ++ [ues x1]) = T2) := by
                              show _ = _
                              rw [← hW2, HD1.out, HD0.out]
                            clear hW2 hhex
                            clear hhex0
                            go_upto_region 28 with fail
                            refine region28 HS hlb hln1 cp (k + 1) hnx (by omega) x1 HX1.out _ _ _ _ _ _ _ _ _ _ _ _ _ _ _ _ _ _ _ _ _ _ _ _ _ _ _ _ _ _ _ _ _ _ _ _ _ _ _ _ _ _ _ _ _ _ _ _ _ _ _ _ _ _ _ _ _ _ _ _ _ _ _ _ _ _ _ _ _ _ _ _ _ _ _ _ _ _ _ _ _ _ _ _ _ _ _ _ _ _ _ _ _ _ _ _ _ _ _ _ _ _ _ _ _ _ _ _ _ _ _ _ _ _ _ _ _ _ _ _ _ _ _ _ _ _ _ _ _ _ _ _ _ _ _ _ _ _ _ _ _ _ _ _ _ _ _ _ _ _ _ _ _ _ _ _ _ _ _ _ _ _ _ _ _ _ _ _ _ _ _ _ _ _ _ _ _ _ _ _ _ _ _ _ _ _ _ _ _ _ _ _ _ _ _ _ _ _ _ _ _ _ _ _ _ _ _ _ _ _ _ _ _ _ _ _ _ _ _ _ _ _ _ _ _ _ _ _ _ _ _ _ _ _ _ _ _ _ _ _ _ _ _ _ _ _ _ _ _ _ _ _ _ _ _ _ _ _ _ _ _ _ _ _ _ _ (fun _ _ d _ _ h => by cases d <;> exact h) ?_
                            intro ar3 w3 n0 n1 n2 n3 n4 n5 n6 n7 n8 n9 n10 n11 n12 n13 hWS
                            go_wp2
                            go_roundg g2
                            case rel => exact ⟨k + 2, 34, ar3, A2 ++ [ues x1], by go_num, rfl, by simp, by omega, by omega, hWS, hW3.out, by omega, by simp; omega⟩
                            case measure => omega
                        · have hhex : hexAt 34 92 r = false := by
                            unfold hexAt
                            have : decide (3 ≤ r.length) = false := by rw [hrl]; simp; omega
                            rw [this]
                            simp
                          have hlt3 : decide ((k : Int) + 3 < l1.length) = false := by simp; omega
                          as_aux_lemma =>
                          have hW2 := HW.out
                          rw [if_neg (by simp), if_neg (by simp), if_neg (by simp), if_neg (by rw [hhex]; simp), if_pos ⟨rfl, rfl, hrn⟩] at hW2
                          have hW3 : Hid (wd g2 (l1.drop (k + 2)) 34 (A2 ++ [ues x1]) = T2) := by
                            show _ = _
                            rw [← hW2, HD1.out, HD0.out]
                          clear hW2 hhex

                          go_upto_region 28 with fail
                          refine region28 HS hlb hln1 cp (k + 1) hnx (by omega) x1 HX1.out _ _ _ _ _ _ _ _ _ _ _ _ _ _ _ _ _ _ _ _ _ _ _ _ _ _ _ _ _ _ _ _ _ _ _ _ _ _ _ _ _ _ _ _ _ _ _ _ _ _ _ _ _ _ _ _ _ _ _ _ _ _ _ _ _ _ _ _ _ _ _ _ _ _ _ _ _ _ _ _ _ _ _ _ _ _ _ _ _ _ _ _ _ _ _ _ _ _ _ _ _ _ _ _ _ _ _ _ _ _ _ _ _ _ _ _ _ _ _ _ _ _ _ _ _ _ _ _ _ _ _ _ _ _ _ _ _ _ _ _ _ _ _ _ _ _ _ _ _ _ _ _ _ _ _ _ _ _ _ _ _ _ _ _ _ _ _ _ _ _ _ _ _ _ _ _ _ _ _ _ _ _ _ _ _ _ _ _ _ _ _ _ _ _ _ _ _ _ _ _ _ _ _ _ _ _ _ _ _ _ _ _ _ _ _ _ _ _ _ _ _ _ _ _ _ _ _ _ _ _ _ _ _ _ _ _ _ _ _ _ _ _ _ _ _ _ _ _ _ _ _ _ _ _ _ _ _ _ _ _ _ _ _ _ _ _ (fun _ _ d _ _ h => by cases d <;> exact h) ?_
                          intro ar3 w3 n0 n1 n2 n3 n4 n5 n6 n7 n8 n9 n10 n11 n12 n13 hWS
                          go_wp2
                          go_roundg g2
                          case rel => exact ⟨k + 2, 34, ar3, A2 ++ [ues x1], by go_num, rfl, by simp, by omega, by omega, hWS, hW3.out, by omega, by simp; omega⟩
                          case measure => omega
                      · as_aux_lemma =>
                        have hlt3 : decide ((k : Int) + 3 < l1.length) = false := by simp; omega
                        have hlt1 : decide ((k : Int) + 1 < l1.length) = false := by simp; omega
                        have hr0 : r = [] := HRE.out.2 (by omega)
                        have hW2 := HW.out
                        rw [if_neg (by simp), if_neg (by simp), if_neg (by simp), if_neg (by rw [hr0]; simp [hexAt]), if_neg (fun h1 => h1.2.2 hr0), if_neg (by simp)] at hW2
                        clear hr0
                        have HSA : Hid (WS h D cap xs W s lb lo l1 L (wr.alloc (.cells #[.int .u8 92] 5)) ag (.slice pa2 A2.length ca2) A2 vs1 args1) := HS.out.alloc _
                        have hW3 : Hid (wd g2 (l1.drop (k + 1)) 34 (A2 ++ [92]) = T2) := by
                          have := hW2
                          rw [hr]
                          exact this
                        clear hW2
                        go_wp2_with (at_builtin; refine wpList_append_two _ (by rfl) _ _ 24 (by rfl) (h + 5) 5 i0 (.int .u8 0) 1 Tryd.underlying24 hi0 hz0 hz1 hz2 rfl (.slice pa2 A2.length ca2) A2.length (u8s A2) (by rfl) HSA.out.rows.oa ⟨wr.heap.size, 0, none⟩ 1 1 [.int .u8 92] (by rfl) rfl (World.news_of_block (cs := #[.int .u8 92]) (t := 5) (fr := (0, 0)) (heap_alloc_new wr _)) (by simp [Value.oneCell']) hb1 hb2 (Nat.succ_le_of_lt HSA.out.rs.lt) ?_; intro ar3 w3 hown hmv; obtain ⟨p3, c3, rfl⟩ := own_form hown; have hG := HSA.out.rs.grown hmv.grown (fun k hk => (HSA.out.rows.oa.lt k hk).1); have r33 := hG.r3; have f33 := hG.fR)
                        go_roundg g2
                        case rel => exact ⟨k + 1, 34, _, A2 ++ [92], by go_num, rfl, by simp, by omega, by omega, HSA.out.putA hlb hown hmv, hW3.out, by omega, by simp; omega⟩
                        case measure => omega
                    · as_aux_lemma =>
                      have hW2 := HW.out
                      rw [if_neg (by simp), if_neg (by simp), if_neg h34, if_neg (by simp [hexAt, h92]), if_neg (fun h1 => h92 h1.2.1), if_neg (by simp)] at hW2
                      have e92 : (ck == 92) = false := beq_eq_false_iff_ne.2 h92
                      clear h34 h92
                      have HSA : Hid (WS h D cap xs W s lb lo l1 L (wr.alloc (.cells #[.int .u8 ck] 5)) ag (.slice pa2 A2.length ca2) A2 vs1 args1) := HS.out.alloc _
                      have hW3 : Hid (wd g2 (l1.drop (k + 1)) 34 (A2 ++ [ck]) = T2) := by
                        have := hW2
                        rw [hr]
                        exact this
                      clear hW2
                      go_wp2_with (at_builtin; refine wpList_append_two _ (by rfl) _ _ 24 (by rfl) (h + 5) 5 i0 (.int .u8 0) 1 Tryd.underlying24 hi0 hz0 hz1 hz2 rfl (.slice pa2 A2.length ca2) A2.length (u8s A2) (by rfl) HSA.out.rows.oa ⟨wr.heap.size, 0, none⟩ 1 1 [.int .u8 ck] (by rfl) rfl (World.news_of_block (cs := #[.int .u8 ck]) (t := 5) (fr := (0, 0)) (heap_alloc_new wr _)) (by simp [Value.oneCell']) hb1 hb2 (Nat.succ_le_of_lt HSA.out.rs.lt) ?_; intro ar3 w3 hown hmv; obtain ⟨p3, c3, rfl⟩ := own_form hown; have hG := HSA.out.rs.grown hmv.grown (fun k hk => (HSA.out.rows.oa.lt k hk).1); have r33 := hG.r3; have f33 := hG.fR)
                      go_roundg g2
                      case rel => exact ⟨k + 1, 34, _, A2 ++ [ck], by go_num, rfl, by simp, by omega, by omega, HSA.out.putA hlb hown hmv, hW3.out, by omega, by simp; omega⟩
                      case measure => omega
                · by_cases h39 : ck = 39
                  · subst h39
                    as_aux_lemma =>
                    have hW2 := HW.out
                    rw [if_neg (by simp [isBr]), if_neg (by simp), if_pos rfl] at hW2
                    by_cases hnx : k + 1 < l1.length
                    · obtain ⟨d, hd1⟩ : ∃ d, r.getD 0 0 = d := ⟨_, rfl⟩
                      have c1 : wr.cell? ⟨lb, lo + (k + 1), none⟩ = some (.int .u8 d) := by have := HCN.out 0 (by omega); rw [hd1] at this; exact this
                      have hlt1 : decide ((k : Int) + 1 < l1.length) = true := by simp; omega
                      cases hs : isSp d with
                      | true =>
                        have hT : (some (r, 0), A2) = T2 := by rw [if_pos (.inr (by rw [hd1]; exact hs))] at hW2; exact hW2
                        clear hW2 hd1
                        go_wp2_with (go_at_call 68; refine (isSpace_is d true _ hs).mono ?_; rintro e w' ⟨rfl, rfl⟩)
                        go_meet
                        case rel => exact ⟨k + 1, 0, _, A2, by go_num, rfl, by omega, HS.out, by rw [hr]; exact hT.symm, by omega⟩
                      | false =>
                        have hT : (none, A2) = T2 := by
                          rw [if_neg (by rintro (h1 | h1); exact absurd (HRE.out.1 h1) (by omega); rw [hd1, hs] at h1; cases h1)] at hW2
                          exact hW2
                        have hTT := HERR.out A2 hT.symm
                        clear hW2 hd1
                        go_wp2_with (go_at_call 68; refine (isSpace_is d false _ hs).mono ?_; rintro e w' ⟨rfl, rfl⟩)
                        go_ret
                        exact ⟨_, ag, _, vs1, rfl, .inr ⟨by rw [← hTT], _, rfl⟩, (HS.out.alloc _).rs, by rw [← hTT]; exact (HS.out.alloc _).rows, (HS.out.alloc _).bel⟩
                    · have hT : (some (r, 0), A2) = T2 := by rw [if_pos (.inl (HRE.out.2 (by omega)))] at hW2; exact hW2
                      have hlt1 : decide ((k : Int) + 1 < l1.length) = false := by simp; omega
                      clear hW2
                      go_wp2
                      go_meet
                      case rel => exact ⟨k + 1, 0, _, A2, by go_num, rfl, by omega, HS.out, by rw [hr]; exact hT.symm, by omega⟩
                  · have e39 : (ck == 39) = false := beq_eq_false_iff_ne.2 h39
                    by_cases h92 : ck = 92
                    · subst h92
                      by_cases hnx : k + 1 < l1.length
                      · obtain ⟨d, hd1⟩ : ∃ d, r.getD 0 0 = d := ⟨_, rfl⟩
                        have c1 : wr.cell? ⟨lb, lo + (k + 1), none⟩ = some (.int .u8 d) := by have := HCN.out 0 (by omega); rw [hd1] at this; exact this
                        have hlt1 : decide ((k : Int) + 1 < l1.length) = true := by simp; omega
                        have hrn : r ≠ [] := fun h1 => absurd (HRE.out.1 h1) (by omega)
                        by_cases hd9 : d = 39
                        · subst hd9
                          as_aux_lemma =>
                          have hW2 := HW.out
                          rw [if_neg (by simp), if_neg (by simp), if_neg (by simp), if_neg (by simp [hexAt]), if_neg (by simp), if_pos ⟨rfl, rfl, hrn, hd1⟩] at hW2
                          have hW2' : wd g2 (l1.drop (k + 2)) 39 (A2 ++ [39]) = T2 := by rw [← hW2, HD1.out]
                          clear hW2 hd1
                          have HSA : Hid (WS h D cap xs W s lb lo l1 L (wr.alloc (.cells #[.int .u8 39] 5)) ag (.slice pa2 A2.length ca2) A2 vs1 args1) := HS.out.alloc _
                          have hW3 : Hid (wd g2 (l1.drop (k + 2)) 39 (A2 ++ [39]) = T2) := hW2'
                          clear hW2'
                          go_wp2_with (at_builtin; refine wpList_append_two _ (by rfl) _ _ 24 (by rfl) (h + 5) 5 i0 (.int .u8 0) 1 Tryd.underlying24 hi0 hz0 hz1 hz2 rfl (.slice pa2 A2.length ca2) A2.length (u8s A2) (by rfl) HSA.out.rows.oa ⟨wr.heap.size, 0, none⟩ 1 1 [.int .u8 39] (by rfl) rfl (World.news_of_block (cs := #[.int .u8 39]) (t := 5) (fr := (0, 0)) (heap_alloc_new wr _)) (by simp [Value.oneCell']) hb1 hb2 (Nat.succ_le_of_lt HSA.out.rs.lt) ?_; intro ar3 w3 hown hmv; obtain ⟨p3, c3, rfl⟩ := own_form hown; have hG := HSA.out.rs.grown hmv.grown (fun k hk => (HSA.out.rows.oa.lt k hk).1); have r33 := hG.r3; have f33 := hG.fR)
                          go_roundg g2
                          case rel => exact ⟨k + 2, 39, _, A2 ++ [39], by go_num, rfl, by simp, by omega, by omega, HSA.out.putA hlb hown hmv, hW3.out, by omega, by simp; omega⟩
                          case measure => omega
                        · as_aux_lemma =>
                          have hW2 := HW.out
                          rw [if_neg (by simp), if_neg (by simp), if_neg (by simp), if_neg (by simp [hexAt]), if_neg (by simp), if_neg (by rw [hd1]; exact fun h1 => hd9 h1.2.2.2)] at hW2
                          have ed : (d == 39) = false := beq_eq_false_iff_ne.2 hd9
                          clear hd1 hd9
                          have HSA : Hid (WS h D cap xs W s lb lo l1 L (wr.alloc (.cells #[.int .u8 92] 5)) ag (.slice pa2 A2.length ca2) A2 vs1 args1) := HS.out.alloc _
                          have hW3 : Hid (wd g2 (l1.drop (k + 1)) 39 (A2 ++ [92]) = T2) := by
                            have := hW2
                            rw [hr]
                            exact this
                          clear hW2
                          go_wp2_with (at_builtin; refine wpList_append_two _ (by rfl) _ _ 24 (by rfl) (h + 5) 5 i0 (.int .u8 0) 1 Tryd.underlying24 hi0 hz0 hz1 hz2 rfl (.slice pa2 A2.length ca2) A2.length (u8s A2) (by rfl) HSA.out.rows.oa ⟨wr.heap.size, 0, none⟩ 1 1 [.int .u8 92] (by rfl) rfl (World.news_of_block (cs := #[.int .u8 92]) (t := 5) (fr := (0, 0)) (heap_alloc_new wr _)) (by simp [Value.oneCell']) hb1 hb2 (Nat.succ_le_of_lt HSA.out.rs.lt) ?_; intro ar3 w3 hown hmv; obtain ⟨p3, c3, rfl⟩ := own_form hown; have hG := HSA.out.rs.grown hmv.grown (fun k hk => (HSA.out.rows.oa.lt k hk).1); have r33 := hG.r3; have f33 := hG.fR)
                          go_roundg g2
                          case rel => exact ⟨k + 1, 39, _, A2 ++ [92], by go_num, rfl, by simp, by omega, by omega, HSA.out.putA hlb hown hmv, hW3.out, by omega, by simp; omega⟩
                          case measure => omega
                      · as_aux_lemma =>
                        have hW2 := HW.out
                        rw [if_neg (by simp), if_neg (by simp), if_neg (by simp), if_neg (by simp [hexAt]), if_neg (by simp), if_neg (fun h1 => h1.2.2.1 (HRE.out.2 (by omega)))] at hW2
                        have hlt1 : decide ((k : Int) + 1 < l1.length) = false := by simp; omega
                        have HSA : Hid (WS h D cap xs W s lb lo l1 L (wr.alloc (.cells #[.int .u8 92] 5)) ag (.slice pa2 A2.length ca2) A2 vs1 args1) := HS.out.alloc _
                        have hW3 : Hid (wd g2 (l1.drop (k + 1)) 39 (A2 ++ [92]) = T2) := by
                          have := hW2
                          rw [hr]
                          exact this
                        clear hW2
                        go_wp2_with (at_builtin; refine wpList_append_two _ (by rfl) _ _ 24 (by rfl) (h + 5) 5 i0 (.int .u8 0) 1 Tryd.underlying24 hi0 hz0 hz1 hz2 rfl (.slice pa2 A2.length ca2) A2.length (u8s A2) (by rfl) HSA.out.rows.oa ⟨wr.heap.size, 0, none⟩ 1 1 [.int .u8 92] (by rfl) rfl (World.news_of_block (cs := #[.int .u8 92]) (t := 5) (fr := (0, 0)) (heap_alloc_new wr _)) (by simp [Value.oneCell']) hb1 hb2 (Nat.succ_le_of_lt HSA.out.rs.lt) ?_; intro ar3 w3 hown hmv; obtain ⟨p3, c3, rfl⟩ := own_form hown; have hG := HSA.out.rs.grown hmv.grown (fun k hk => (HSA.out.rows.oa.lt k hk).1); have r33 := hG.r3; have f33 := hG.fR)
                        go_roundg g2
                        case rel => exact ⟨k + 1, 39, _, A2 ++ [92], by go_num, rfl, by simp, by omega, by omega, HSA.out.putA hlb hown hmv, hW3.out, by omega, by simp; omega⟩
                        case measure => omega
                    · as_aux_lemma =>
                      have hW2 := HW.out
                      rw [if_neg (by simp), if_neg (by simp), if_neg h39, if_neg (by simp [hexAt]), if_neg (by simp), if_neg (fun h1 => h92 h1.2.1)] at hW2
                      have e92 : (ck == 92) = false := beq_eq_false_iff_ne.2 h92
                      clear h39 h92
                      have HSA : Hid (WS h D cap xs W s lb lo l1 L (wr.alloc (.cells #[.int .u8 ck] 5)) ag (.slice pa2 A2.length ca2) A2 vs1 args1) := HS.out.alloc _
                      have hW3 : Hid (wd g2 (l1.drop (k + 1)) 39 (A2 ++ [ck]) = T2) := by
                        have := hW2
                        rw [hr]
                        exact this
                      clear hW2
                      go_wp2_with (at_builtin; refine wpList_append_two _ (by rfl) _ _ 24 (by rfl) (h + 5) 5 i0 (.int .u8 0) 1 Tryd.underlying24 hi0 hz0 hz1 hz2 rfl (.slice pa2 A2.length ca2) A2.length (u8s A2) (by rfl) HSA.out.rows.oa ⟨wr.heap.size, 0, none⟩ 1 1 [.int .u8 ck] (by rfl) rfl (World.news_of_block (cs := #[.int .u8 ck]) (t := 5) (fr := (0, 0)) (heap_alloc_new wr _)) (by simp [Value.oneCell']) hb1 hb2 (Nat.succ_le_of_lt HSA.out.rs.lt) ?_; intro ar3 w3 hown hmv; obtain ⟨p3, c3, rfl⟩ := own_form hown; have hG := HSA.out.rs.grown hmv.grown (fun k hk => (HSA.out.rows.oa.lt k hk).1); have r33 := hG.r3; have f33 := hG.fR)
                      go_roundg g2
                      case rel => exact ⟨k + 1, 39, _, A2 ++ [ck], by go_num, rfl, by simp, by omega, by omega, HSA.out.putA hlb hown hmv, hW3.out, by omega, by simp; omega⟩
                      case measure => omega
              · have hkn : k = l1.length := by omega
                subst hkn
                have hd : decide ((l1.length : Int) < l1.length) = false := by simp
                have hT2' : T2 = (some (l1.drop l1.length, q), A2) := by rw [← hW]; simp [wd]
                clear hW HWS
                go_wp2
                go_meet
                case rel => exact ⟨_, q, ar2, A2, rfl, rfl, Nat.le_refl _, HS.out, hT2', by omega⟩
          case rest =>
            as_aux_lemma =>
            obtain ⟨k, q, ar4, A4, rfl, rfl, hk, HWS4, hT4, hA4⟩ := hcut
            have HS4 : Hid (WS h D cap xs W s lb lo l1 L wc ag ar4 A4 vs1 args1) := HWS4
            have hT5 := HT2.out.trans hT4
            have hlen2 := wd_lt ((l1.drop (j + 1)).length + 1) _ _ _ _ _ _ (isBr_of_isSp _ (HNS.out hlt)) hT5
            rw [List.length_drop, List.length_drop] at hlen2
            have hgrow := wd_grow _ _ _ _ _ _ hT5
            clear HWS4 HS HERR HWR r3 HAR
            by_cases hq0 : q = 0
            · subst hq0
              have HSP : Hid (spl g1 (l1.drop k) A4 (args1 ++ [A4.drop A1.length]) = T) := (spl_word g1 _ A1 A4 args1 _ _ _ HSK2.out hT5).symm.trans HT.out
              obtain ⟨pa4, ca4, har4⟩ := own_form HS4.out.rows.oa
              clear hT4 hT5 HT2 HT
              go_wp2
              refine region34 HS4 hlb (by omega) 0 A1.length hgrow (by omega) (by omega) pa4 ca4 har4 _ _ _ _ _ _ _ _ _ _ _ _ _ _ _ _ _ _ _ _ _ _ _ _ _ _ _ _ _ _ _ _ _ _ _ _ _ _ _ _ _ _ _ _ _ _ _ _ _ _ _ _ _ _ _ _ _ _ _ _ _ _ _ _ _ _ _ _ _ _ _ _ _ _ _ _ _ _ _ _ _ _ _ _ _ _ _ _ _ _ _ _ _ _ _ _ _ _ _ _ _ _ _ _ _ _ _ _ _ _ _ _ _ _ _ _ _ _ _ _ _ _ _ _ _ _ _ _ _ _ _ _ _ _ _ _ _ _ _ _ _ _ _ _ _ _ _ _ _ _ _ _ _ _ _ _ _ _ _ _ _ _ _ _ _ _ _ _ _ _ _ _ _ _ _ _ _ _ _ _ _ _ _ _ _ _ _ _ _ _ _ _ _ _ _ _ _ _ _ _ _ _ _ _ _ _ _ _ _ _ _ _ _ _ _ _ _ _ _ _ _ _ _ _ _ _ _ _ _ _ _ _ _ _ _ _ _ _ _ _ _ _ _ _ _ _ _ _ _ _ _ _ _ _ _ _ _ _ _ _ _ _ _ _ _ _ _ (fun _ _ d _ _ h => by cases d <;> exact h) ?_
              intro ag3 w3 v n0 n1 n2 n3 n4 n5 n6 n7 n8 n9 n10 n11 n12 n13 n14 n15 n16 n17 n18 n19 n20 n21 n22 n23 n24 hWS
              go_wp2
              go_roundg g1
              case rel => exact ⟨k, ag3, ar4, A4, vs1 ++ [v], args1 ++ [A4.drop A1.length], rfl, hk, hWS, HSP.out, by omega, by omega, by simp; omega⟩
              case measure => omega
            · have hTT : (false, A4, args1) = T := (spl_open g1 _ A1 A4 args1 _ _ _ _ HSK2.out hT5 hq0).symm.trans HT.out
              have eq0 : (q == 0) = false := beq_eq_false_iff_ne.2 hq0
              clear hT4 hT5 HT2 HT
              go_wp2
              go_ret
              exact ⟨_, ag, _, vs1, rfl, .inr ⟨by rw [← hTT], _, rfl⟩, (HS4.out.alloc _).rs, by rw [← hTT]; exact (HS4.out.alloc _).rows, (HS4.out.alloc _).bel⟩
        · as_aux_lemma =>
          have hjn : j = l1.length := by omega
          subst hjn
          have hT : (true, A1, args1) = T := by
            rw [← HT.out]
            exact (spl_nil g1 _ A1 args1 (by rw [HSK.out]; simp)).symm
          go_wp2
          go_ret
          exact ⟨_, ag, ar, vs1, rfl, .inl ⟨by rw [← hT], rfl⟩, HS.out.rs, by rw [← hT]; exact HS.out.rows, HS.out.bel⟩
end Go.Proofs.Qxb6605687aDoor
