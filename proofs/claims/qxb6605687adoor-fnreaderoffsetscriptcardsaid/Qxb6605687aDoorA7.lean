/- The law on offsets: the walk. -/
import Derived.Test.Qxb6605687aDoorB7
namespace Go.Proofs.Qxb6605687aDoor
open Go.RowKit
set_option maxHeartbeats 8000000
set_option maxRecDepth 100000
set_option linter.unusedSimpArgs false
set_option linter.unusedVariables false

variable {a1 a3 a4 : Addr}

theorem law7 (p : Option Addr) (cp : Nat) (S : List ByteArray) (tl : ByteArray) (W : World) (H : SL W p S) (hn : S.length ≤ maxLen) (ht : tl.size ≤ maxLen) (hnil : p = none → S.length = 0 ∧ cp = 0) (G : Gl W.heap.size W a1 a3 a4) :
    Calls Tryd.prog 7 #[.slice p S.length cp, .string tl] W fun e w' => e = .returned (.bool true) ∧ Below W.heap.size W w' := by
  have HS : Hid (SL W p S) := H
  have HG : Hid (Gl W.heap.size W a1 a3 a4) := G
  have hmx : S.length ≤ 9223372036854775807 := by unfold maxLen at hn; omega
  have htx : tl.size ≤ 9223372036854775807 := by unfold maxLen at ht; omega
  have HGT : Hid (Calls Tryd.prog 29 #[.slice p S.length cp, .string tl] W fun e w' => (∃ b, e = .returned (.bool b)) ∧ w' = W) := gate29 p cp S tl W H hn htx
  have HNIL : Hid (p = none → S.length = 0 ∧ cp = 0) := hnil
  clear H G hn ht hnil
  obtain ⟨i0, hi0, hz0, hz1, hz2⟩ := info_parts info5d
  generalize hL : S.length = n at *
  have HL : Hid (S.length = n) := hL
  clear hL
  go_enter Tryd.func7, Tryd.ntmps7
  go_wp2_with fail
  refine HGT.out.mono ?_
  rintro e w1 ⟨⟨b, rfl⟩, rfl⟩
  clear HGT
  cases b with
  | false =>
    go_wp2
    go_ret
    exact ⟨rfl, Below.refl _ _⟩
  | true =>
    by_cases hn1 : n ≤ 65536
    · by_cases ht1 : tl.size ≤ 1048576
      · by_cases htot : 16 * n + tl.size ≤ 1048576
        · go_wp2
          go_loopg [5, 6] (n + 1) (fun g v5 v6 wr => ∃ t i : Nat, v5 = .int .i64 (t : Int) ∧ v6 = .int .i64 (i : Int) ∧ Hid (t = 16 * n + tl.size + sumS (S.take i)) ∧ t ≤ 1048576 ∧ i ≤ n ∧ n < g + i ∧ wr = w1)
          case atStart => exact ⟨16 * n + tl.size, 0, by go_num, rfl, rfl, htot, by omega, by omega, rfl⟩
          case round =>
            obtain ⟨t, i, rfl, rfl, HTT, htt, hi, hg, rfl⟩ := hrel
            rcases Nat.lt_or_ge i n with hlt | hge
            · obtain ⟨a, hpa, hc⟩ := HS.out.c i (by rw [HL.out]; exact hlt)
              subst hpa
              have hsz := HS.out.size _ _ _ i (by rw [HL.out]; exact hlt)
              have HTT2 : Hid (t + (S.getD i default).size = 16 * n + tl.size + sumS (S.take (i + 1))) := by
                show _ = _
                rw [sumS_take S i (by rw [HL.out]; exact hlt), HTT.out]
                omega
              generalize S.getD i default = si at *
              have hsz' : si.size ≤ 9223372036854775807 := by unfold maxLen at hsz; omega
              clear hsz
              by_cases h1 : si.size ≤ 1048576
              · by_cases h2 : t + si.size ≤ 1048576
                · go_wp2
                  go_roundg (gk - 1)
                  case rel => exact ⟨t + si.size, i + 1, by go_num, by go_num, HTT2.out, h2, by omega, by omega, rfl⟩
                  case measure => omega
                · go_wp2
                  go_ret
                  exact ⟨rfl, Below.refl _ _⟩
              · go_wp2
                go_ret
                exact ⟨rfl, Below.refl _ _⟩
            · obtain rfl : i = n := by omega
              go_wp2
              go_loopg [7] (i + 1) (fun g v7 w2 => ∃ j : Nat, v7 = .int .i64 (j : Int) ∧ j ≤ i ∧ i < g + j ∧ Hid (∀ k, k < j → (S.getD k default).size ≤ 65536 ∧ fi (sb (S.getD k default)) 10 = none) ∧ w2 = wr)
              case atStart => exact ⟨0, rfl, by omega, by omega, fun k hk => by omega, rfl⟩
              case round =>
                obtain ⟨j, rfl, hj, hgj, HPL, rfl⟩ := hrel
                rcases Nat.lt_or_ge j i with hlt | hge2
                · obtain ⟨a, hpa, hc⟩ := HS.out.c j (by rw [HL.out]; exact hlt)
                  subst hpa
                  have hsz := HS.out.size _ _ _ j (by rw [HL.out]; exact hlt)
                  have HPN : Hid ((S.getD j default).size ≤ 65536 → fi (sb (S.getD j default)) 10 = none → ∀ k, k < j + 1 → (S.getD k default).size ≤ 65536 ∧ fi (sb (S.getD k default)) 10 = none) := fun h1 h2 k hk => by
                    by_cases e : k = j
                    · subst e; exact ⟨h1, h2⟩
                    · exact HPL.out k (by omega)
                  clear HPL
                  generalize S.getD j default = sj at *
                  have hsz' : sj.size ≤ 9223372036854775807 := by unfold maxLen at hsz; omega
                  clear hsz
                  by_cases h1 : sj.size ≤ 65536
                  · cases hf : (fi (sb sj) 10).isSome with
                    | true =>
                      go_wp2_with (go_at_call 30; refine (hasLF_is sj true _ (by omega) hf).mono ?_; rintro e w' ⟨rfl, rfl⟩)
                      go_ret
                      exact ⟨rfl, Below.refl _ _⟩
                    | false =>
                      have HPN2 : Hid (∀ k, k < j + 1 → (S.getD k default).size ≤ 65536 ∧ fi (sb (S.getD k default)) 10 = none) := HPN.out h1 (by cases h : fi (sb sj) 10 with | none => rfl | some k => rw [h] at hf; cases hf)
                      clear HPN
                      go_wp2_with (go_at_call 30; refine (hasLF_is sj false _ (by omega) hf).mono ?_; rintro e w' ⟨rfl, rfl⟩)
                      go_roundg (gk - 1)
                      case rel => exact ⟨j + 1, by go_num, by omega, by omega, HPN2.out, rfl⟩
                      case measure => omega
                  · go_wp2
                    go_ret
                    exact ⟨rfl, Below.refl _ _⟩
                · obtain rfl : j = i := by omega
                  by_cases h1 : tl.size ≤ 65536
                  · cases hf : (fi (sb tl) 10).isSome with
                    | true =>
                      go_wp2_with (go_at_call 30; refine (hasLF_is tl true _ (by omega) hf).mono ?_; rintro e w' ⟨rfl, rfl⟩)
                      go_ret
                      exact ⟨rfl, Below.refl _ _⟩
                    | false =>
                      have HTL : Hid (fi (sb tl) 10 = none) := by show _ = _; cases h : fi (sb tl) 10 with | none => rfl | some k => rw [h] at hf; cases hf
                      rcases hp : p with _ | a
                      · obtain ⟨hj0, hcp0⟩ := HNIL.out hp
                        subst hj0 hcp0
                        subst hp
                        have hq : ∀ W, (binOp .neq 51 (.slice none 0 0) (.slice none 0 0)).run Tryd.prog W = .ok (.bool false) W := fun W => Go.run_neq_slice_nil W 51 9 none 0 0 Tryd.underlying51
                        go_wp2_with (first | (go_at_call 30; refine (hasLF_is tl false _ (by omega) hf).mono ?_; rintro e w9 ⟨rfl, h9⟩; rw [h9]; clear h9 w9) | (at_make; refine wpList_make_own _ rfl _ _ 24 rfl wr.heap.size 5 i0 (.int .u8 0) 1 Tryd.underlying24 hi0 hz0 hz1 _ _ _ t rfl rfl rfl (by rw [hz2]; omega) (by unfold maxLen; omega) (Nat.le_refl _) ?_; intro w4 hown4 hgrow4))
                        clear hq
                        obtain ⟨w2, hw2⟩ : ∃ w2, w2 = wr := ⟨_, rfl⟩
                        rw [← hw2] at hown4 hgrow4 HG HS ⊢
                        have HW2 : Hid (w2 = wr) := hw2
                        clear hw2
                        have HOW0 : Hid (w4.ownsRow w2.heap.size 5 1 (.slice (some ⟨w2.heap.size, 0, none⟩) 0 t) 0 (u8s [])) := hown4
                        have HB4 : Hid (Below w2.heap.size w2 w4) := (Below.refl _ w2).grown hgrow4 (Nat.le_refl _) (fun k h => by cases h)
                        have HDL : Hid ((dat S tl).length ≤ t) := by
                          show _ ≤ _
                          have h1 := HTT.out
                          rw [List.take_of_length_le (by rw [HL.out]; omega)] at h1
                          rw [dat_len, HL.out]
                          omega
                        clear hown4 hgrow4
                        go_loopg [9, 10] (0 + 1) (fun g v9 v10 w5 => ∃ (i : Nat) (X : List Int), v9 = .slice (some ⟨w2.heap.size, 0, none⟩) X.length t ∧ v10 = .int .i64 (i : Int) ∧ i ≤ 0 ∧ 0 < g + i ∧ Hid (X ++ dat (S.drop i) tl = dat S tl) ∧ Hid (w5.ownsRow w2.heap.size 5 1 (.slice (some ⟨w2.heap.size, 0, none⟩) X.length t) X.length (u8s X)) ∧ Hid (Below w2.heap.size w2 w5))
                        case atStart => exact ⟨0, [], rfl, rfl, by omega, by omega, rfl, HOW0.out, HB4.out⟩
                        case round =>
                          clear HOW0 HB4
                          obtain ⟨i, X, rfl, rfl, hi3, hg3, HX3, HOW, HB5⟩ := hrel
                          rcases Nat.lt_or_ge i 0 with hlt3 | hge3
                          · omega
                          · have hiz : i = 0 := by omega
                            subst hiz
                            have HX5 : Hid (X ++ sb tl = dat S tl) := by
                              have := HX3.out
                              rw [List.drop_eq_nil_of_le (by rw [HL.out]; omega)] at this
                              exact this
                            obtain ⟨n8, hn8⟩ : ∃ n8, (dat S tl).length = n8 := ⟨_, rfl⟩
                            have HN8 : Hid ((dat S tl).length = n8) := hn8
                            have HN9 : Hid (X.length + tl.size = n8) := by
                              show _ = _
                              rw [← hn8, ← HX5.out, List.length_append, sb_len]
                            have hn8t : n8 ≤ t := by have := HDL.out; omega
                            have HNB : Hid (∀ w, Calls Tryd.prog 26 #[.slice (some ⟨w2.heap.size, 0, none⟩) n8 t] w fun e w' => e = .returned (.pointer (some ⟨w.heap.size + 4, 0, none⟩)) ∧ RI w.heap.size w2.heap.size t (dat S tl) w' s0 0 ∧ Below w.heap.size w w') := fun w => by
                              have := newBytes_any w2.heap.size t (dat S tl) w
                              rw [hn8] at this
                              exact this
                            have hft : X.length + tl.size ≤ t := by have := HN9.out; omega
                            clear HX3 hn8
                            · go_wp2_with (first | (at_builtin; refine wpList_append_str _ (by rfl) _ _ 24 9 (by rfl) w2.heap.size 5 i0 Tryd.underlying24 Tryd.underlying9 hi0 hz1 w2.heap.size X.length t (u8s X) (by rfl) HOW.out tl (by rfl) hft ?_; intro w6 hown6 hgrow6; rw [HN9.out] at hown6 ⊢) | (go_at_call 26; refine (HNB.out _).mono ?_; rintro e w8 ⟨rfl, hri8, hb8⟩))
                              have HB25 := HB5
                              have hb6 := HB5.out.grown hgrow6 HB5.out.size (fun k hk => by cases hk; exact Nat.le_refl _)
                              have hD6 : w2.heap.size < w6.heap.size := (hown6.lt w2.heap.size rfl).2
                              have HB6 : Hid (Below w2.heap.size w2 w6) := hb6
                              have HB8 : Hid (Below w6.heap.size w6 w8) := hb8
                              obtain ⟨h, hh⟩ : ∃ h, w6.heap.size = h := ⟨_, rfl⟩
                              have HDAT : Hid (Dat w8 w2.heap.size (dat S tl)) := fun k hk => by
                                have h1 : w8.cell? ⟨w2.heap.size, k, none⟩ = w6.cell? ⟨w2.heap.size, k, none⟩ := hb8.cell (show (⟨w2.heap.size, k, none⟩ : Addr).block < w6.heap.size from hD6)
                                rw [h1]
                                have hcs := hown6.cells (g := w2.heap.size) rfl k (.int .u8 ((dat S tl).getD k 0)) (by
                                  rw [strCells_sb, ← u8s_append, HX5.out]
                                  simp [u8s, hk])
                                rw [add_mk, Nat.zero_add] at hcs
                                exact hcs
                              have HBX := (hb6.trans (hb8.mono (Nat.le_of_lt hD6)))
                              have HENV : Hid (Env h w2.heap.size t (dat S tl) _ w8 a1 a3 a4) := ⟨dat_by S tl, HG.out.below HBX (Nat.le_refl _), HDAT.out, by rw [← hh]; exact Nat.le_of_lt hD6, by rw [← hh]; exact hD6, by have := HDL.out; omega, HDL.out, by unfold maxLen; omega⟩
                              rw [hh] at hri8 hb8 ⊢
                              have HRX : Hid (RX h w2.heap.size t (dat S tl) w8 w8 s0 0 [] [] [] []) := ⟨hri8, rows_nil _ _, rfl, Below.refl _ _⟩
                              have HALL : Hid (∀ k, k < 0 → (S.getD k default).size ≤ 65536 ∧ fi (sb (S.getD k default)) 10 = none) := HPL.out
                              have HBW := (show Hid _ from HBX)
                              have hbd : (dat S tl).length ≤ 1048576 := by have := HDL.out; omega
                              clear hri8 hb8 hown6 hgrow6 hb6 HBX HNB HOW HX5 HB5 HB25 HB6 HB8 HDAT HPL hft
                              go_loopg [12, 13] (0 + 1) (fun g v12 v13 w9 => ∃ (q c : Nat) (s1 : St) (A1 : List Int) (vs1 : List Value) (args1 : List (List Int)) (L1 : List Int), v12 = .int .i64 (c : Int) ∧ v13 = .int .i64 (q : Int) ∧ q ≤ 0 ∧ 0 < g + q ∧ Hid (RX h w2.heap.size t (dat S tl) w8 w9 s1 c A1 vs1 args1 L1) ∧ Hid ((dat S tl).drop c = dat (S.drop q) tl) ∧ A1.length ≤ c ∧ args1.length ≤ c)
                              case atStart => exact ⟨0, 0, s0, [], [], [], [], rfl, rfl, by omega, by omega, HRX.out, rfl, by simp, by simp⟩
                              case round =>
                                clear HRX
                                obtain ⟨q, c, s1, A1, vs1, args1, L1, rfl, rfl, hq, hgq, HR, HDR, hA1, hG1⟩ := hrel
                                have hcN : c ≤ (dat S tl).length := by have := HR.out.ri.cc; have := HR.out.ri.iN; omega
                                have hVl : vs1.length ≤ 2000000 := by rw [HR.out.rows.len]; omega
                                have HE9 := (show Hid _ from HENV.out.below HR.out.bel)
                                have HIN : Hid (Calls Tryd.prog 28 #[.pointer (some ⟨h + 4, 0, none⟩)] wr (Inl h w2.heap.size t (dat S tl) w8 wr a4 c A1 vs1 args1)) := zzInline_any HE9 HR.out (by omega) hVl
                                rcases Nat.lt_or_ge q 0 with hlt4 | hge4
                                · omega
                                · obtain rfl : q = 0 := by omega
                                  have HRL : Hid (rl ((dat S tl).drop c) = (tl.size, 2)) := by
                                    show _ = _
                                    rw [HDR.out, List.drop_eq_nil_of_le (by rw [HL.out]; omega), dat]
                                    exact rl_tail tl HTL.out h1
                                  clear HDR
                                  go_wp2_with fail
                                  refine HIN.out.mono ?_
                                  rintro e w10 ⟨ev, rfl, hb10, hst⟩
                                  rcases hst with ⟨h2, _⟩ | ⟨h2, _⟩ | ⟨_, rfl, s', L', hx⟩
                                  · rw [HRL.out] at h2; cases h2
                                  · rw [HRL.out] at h2; cases h2
                                  · have HBZ := (HBW.out.trans (hx.bel.mono HENV.out.hB0))
                                    have HBZ2 := (show Hid _ from HBZ)
                                    have HOF : Hid (Calls Tryd.prog 27 #[.pointer (some ⟨h + 4, 0, none⟩)] w10 fun e w' => e = .returned (.int .i64 (n8 : Int)) ∧ ∃ k, w' = w10.drewN k) := by
                                      have h2 := hx.ri.cc
                                      have h3 := hx.ri.iN
                                      have h4 := hx.ri.n
                                      have h5 := HN8.out
                                      have := offset_any hx.ri.rs hx.ri.ww hx.ri.rw (by omega) (by omega)
                                      rw [show s'.n - (s'.w - s'.r) = n8 by omega] at this
                                      exact this
                                    clear hx HIN hb10 HBZ
                                    go_wp2_with (go_at_call 27; refine HOF.out.mono ?_; rintro e w11 ⟨rfl, k11, rfl⟩)
                                    go_ret
                                    exact ⟨rfl, by have h7 := HW2.out; subst h7; exact below_drewN HBZ2 _⟩
                      · subst hp
                        have hq : ∀ W, (binOp .neq 51 (.slice (some a) j cp) (.slice none 0 0)).run Tryd.prog W = .ok (.bool true) W := fun W => neq51 W a j cp
                        have hmk := run_make_row' (P := Tryd.prog) 51 9 (.string ⟨#[]⟩) 16 Tryd.underlying51 info9 rfl .i64 .i64 j (by omega) (by omega)
                        obtain ⟨wq, hwqe⟩ : ∃ wq, wr.heap.size = wq := ⟨_, rfl⟩
                        have HWQ : Hid (wr.heap.size = wq) := hwqe
                        clear hwqe
                        have HSR : Hid (∀ k v, (S.map Value.string)[k]? = some v → (wr.alloc (.cells (madeCells #[.string ⟨#[]⟩] j) 9)).cell? (a.add k) = some v) := fun k v hk => by
                          obtain ⟨hk1, rfl⟩ := List.getElem?_eq_some_iff.1 hk
                          rw [List.length_map] at hk1
                          obtain ⟨a', e', hc⟩ := HS.out.c k hk1
                          cases e'
                          have hlt := World.block_lt_of_cell? _ _ hc
                          rw [World.cell?_alloc_lt _ _ _ hlt, hc]
                          simp [hk1]
                        have HMZ : Hid ((madeCells #[.string ⟨#[]⟩] j).size = j) := size_madeCells _ _
                        have HSL : Hid ((S.map Value.string).length = j) := (List.length_map _).trans HL.out
                        go_wp2_with (first | (go_at_call 30; refine (hasLF_is tl false _ (by omega) hf).mono ?_; rintro e w9 ⟨rfl, h9⟩; rw [h9]; clear h9 w9) | (refine wpList_copy_at (by rfl) _ _ 51 51 (by rfl) 9 Tryd.underlying51 (by kernel_rfl) wr.heap.size 0 j j a j cp (by rfl) (by rfl) _ 9 (heap_alloc_new wr _) (S.map Value.string) j (Nat.min_self j) HSL.out HSR.out (by rw [HSL.out, HMZ.out]; omega) (strs_one S) _ rfl ?_; have HS2 := (show Hid (SL _ _ S) from SL.copied (w := wr) (S := S) (M := madeCells #[.string ⟨#[]⟩] j) (HMZ.out.trans HL.out.symm) HS.out.mx); have HB2 := (show Hid (Below wr.heap.size wr ((wr.alloc (.cells (madeCells #[.string ⟨#[]⟩] j) 9)).setRow wr.heap.size ((S.map Value.string ++ (madeCells #[.string ⟨#[]⟩] j).toList.drop (0 + (S.map Value.string).length)).toArray))) from below_setRow ((Below.refl _ wr).alloc (Nat.le_refl _) _) _ _ (Nat.le_refl _)); have hz2w : wr.heap.size < ((wr.alloc (.cells (madeCells #[.string ⟨#[]⟩] j) 9)).setRow wr.heap.size ((S.map Value.string ++ (madeCells #[.string ⟨#[]⟩] j).toList.drop (0 + (S.map Value.string).length)).toArray)).heap.size := (by simp [World.setRow]); simp only [List.take_zero, List.nil_append] ; generalize ((wr.alloc (.cells (madeCells #[.string ⟨#[]⟩] j) 9)).setRow wr.heap.size ((S.map Value.string ++ (madeCells #[.string ⟨#[]⟩] j).toList.drop (0 + (S.map Value.string).length)).toArray)) = w2 at *) | (at_make; refine wpList_make_own _ rfl _ _ 24 rfl w2.heap.size 5 i0 (.int .u8 0) 1 Tryd.underlying24 hi0 hz0 hz1 _ _ _ t rfl rfl rfl (by rw [hz2]; omega) (by unfold maxLen; omega) (Nat.le_refl _) ?_; intro w4 hown4 hgrow4))
                        have HOW0 : Hid (w4.ownsRow w2.heap.size 5 1 (.slice (some ⟨w2.heap.size, 0, none⟩) 0 t) 0 (u8s [])) := hown4
                        have HB4 : Hid (Below w2.heap.size w2 w4) := (Below.refl _ w2).grown hgrow4 (Nat.le_refl _) (fun k h => by cases h)
                        have HDL : Hid ((dat S tl).length ≤ t) := by
                          show _ ≤ _
                          have h1 := HTT.out
                          rw [List.take_of_length_le (by rw [HL.out]; omega)] at h1
                          rw [dat_len, HL.out]
                          omega
                        clear hown4 hgrow4 HSR HSL HMZ hq hmk
                        go_loopg [9, 10] (j + 1) (fun g v9 v10 w5 => ∃ (i : Nat) (X : List Int), v9 = .slice (some ⟨w2.heap.size, 0, none⟩) X.length t ∧ v10 = .int .i64 (i : Int) ∧ i ≤ j ∧ j < g + i ∧ Hid (X ++ dat (S.drop i) tl = dat S tl) ∧ Hid (w5.ownsRow w2.heap.size 5 1 (.slice (some ⟨w2.heap.size, 0, none⟩) X.length t) X.length (u8s X)) ∧ Hid (Below w2.heap.size w2 w5))
                        case atStart => exact ⟨0, [], rfl, rfl, by omega, by omega, rfl, HOW0.out, HB4.out⟩
                        case round =>
                          clear HOW0 HB4
                          obtain ⟨i, X, rfl, rfl, hi3, hg3, HX3, HOW, HB5⟩ := hrel
                          rcases Nat.lt_or_ge i j with hlt3 | hge3
                          · obtain ⟨a', e', hc'⟩ := HS2.out.c i (by rw [HL.out]; exact hlt3)
                            cases e'
                            rw [add_mk, Nat.zero_add] at hc'
                            have hc : wr.cell? ⟨_, i, none⟩ = some (.string (S.getD i default)) := (HB5.out.cell (World.block_lt_of_cell? _ _ hc')).trans hc'
                            have HX4 : Hid (X ++ (sb (S.getD i default) ++ [10]) ++ dat (S.drop (i + 1)) tl = dat S tl) := by
                              show _ = _
                              rw [← HX3.out, drop_at S i (by rw [HL.out]; exact hlt3), dat]
                              simp
                            have HFT : Hid (X.length + (S.getD i default).size + 1 ≤ t) := by
                              have := congrArg List.length HX4.out
                              simp only [List.length_append, sb_len, List.length_cons, List.length_nil] at this
                              have := HDL.out
                              show _ ≤ _
                              omega
                            clear hc' HX3
                            generalize S.getD i default = si at *
                            have hft := HFT.out
                            have hl7 : (X ++ (sb si ++ [10])).length = X.length + si.size + 1 := by
                              simp only [List.length_append, sb_len, List.length_cons, List.length_nil]
                              omega
                            go_wp2_with (first | (at_builtin; refine Lib.wpList_append_fits_string _ (by rfl) _ _ 24 9 (by rfl) w2.heap.size 5 i0 Tryd.underlying24 Tryd.underlying9 hi0 hz1 (some ⟨w2.heap.size, 0, none⟩) X.length t (u8s X) (by rfl) HOW.out si (by rfl) (by omega) (by omega) ?_; intro w6 hown6 hgrow6) | (at_builtin; refine wpList_append_fits _ (by rfl) _ _ 24 (by rfl) w2.heap.size 5 i0 1 Tryd.underlying24 hi0 hz1 w2.heap.size (X.length + si.size) t (u8s X ++ Lib.strCells si) (by rfl) (hown6.alloc _) ⟨w6.heap.size, 0, none⟩ 1 1 [.int .u8 10] (by rfl) (by rfl) (World.news_of_block (cs := #[.int .u8 10]) (t := 5) (fr := (0, 0)) (heap_alloc_new w6 _)) (by simp [Value.oneCell']) (by omega) ?_; intro w7 hown7 hgrow7))
                            go_roundg (gk - 1)
                            case rel =>
                              refine ⟨i + 1, X ++ (sb si ++ [10]), by rw [hl7], by go_num, by omega, by omega, HX4.out, ?_, ?_⟩
                              · rw [hl7, u8s_append, u8s_append]
                                rw [strCells_sb, List.append_assoc] at hown7
                                exact hown7
                              · have hb6 := HB5.out.grown hgrow6 HB5.out.size (fun k hk => by cases hk; exact Nat.le_refl _)
                                have hb7 := hb6.alloc (o := .cells #[.int .u8 10] 5) hb6.size
                                exact hb7.grown hgrow7 hb7.size (fun k hk => by cases hk; exact Nat.le_refl _)
                            case measure => omega
                          · obtain rfl : i = j := by omega
                            have HX5 : Hid (X ++ sb tl = dat S tl) := by
                              have := HX3.out
                              rw [List.drop_eq_nil_of_le (by rw [HL.out]; omega)] at this
                              exact this
                            obtain ⟨n8, hn8⟩ : ∃ n8, (dat S tl).length = n8 := ⟨_, rfl⟩
                            have HN8 : Hid ((dat S tl).length = n8) := hn8
                            have HN9 : Hid (X.length + tl.size = n8) := by
                              show _ = _
                              rw [← hn8, ← HX5.out, List.length_append, sb_len]
                            have hn8t : n8 ≤ t := by have := HDL.out; omega
                            have HNB : Hid (∀ w, Calls Tryd.prog 26 #[.slice (some ⟨w2.heap.size, 0, none⟩) n8 t] w fun e w' => e = .returned (.pointer (some ⟨w.heap.size + 4, 0, none⟩)) ∧ RI w.heap.size w2.heap.size t (dat S tl) w' s0 0 ∧ Below w.heap.size w w') := fun w => by
                              have := newBytes_any w2.heap.size t (dat S tl) w
                              rw [hn8] at this
                              exact this
                            have hft : X.length + tl.size ≤ t := by have := HN9.out; omega
                            clear HX3 hn8
                            · go_wp2_with (first | (at_builtin; refine wpList_append_str _ (by rfl) _ _ 24 9 (by rfl) w2.heap.size 5 i0 Tryd.underlying24 Tryd.underlying9 hi0 hz1 w2.heap.size X.length t (u8s X) (by rfl) HOW.out tl (by rfl) hft ?_; intro w6 hown6 hgrow6; rw [HN9.out] at hown6 ⊢) | (go_at_call 26; refine (HNB.out _).mono ?_; rintro e w8 ⟨rfl, hri8, hb8⟩))
                              have HB25 := HB5
                              have hb6 := HB5.out.grown hgrow6 HB5.out.size (fun k hk => by cases hk; exact Nat.le_refl _)
                              have hD6 : w2.heap.size < w6.heap.size := (hown6.lt w2.heap.size rfl).2
                              have HB6 : Hid (Below w2.heap.size w2 w6) := hb6
                              have HB8 : Hid (Below w6.heap.size w6 w8) := hb8
                              obtain ⟨h, hh⟩ : ∃ h, w6.heap.size = h := ⟨_, rfl⟩
                              have HDAT : Hid (Dat w8 w2.heap.size (dat S tl)) := fun k hk => by
                                have h1 : w8.cell? ⟨w2.heap.size, k, none⟩ = w6.cell? ⟨w2.heap.size, k, none⟩ := hb8.cell (show (⟨w2.heap.size, k, none⟩ : Addr).block < w6.heap.size from hD6)
                                rw [h1]
                                have hcs := hown6.cells (g := w2.heap.size) rfl k (.int .u8 ((dat S tl).getD k 0)) (by
                                  rw [strCells_sb, ← u8s_append, HX5.out]
                                  simp [u8s, hk])
                                rw [add_mk, Nat.zero_add] at hcs
                                exact hcs
                              have HBX := (HB2.out.trans ((hb6.mono (Nat.le_of_lt hz2w)))).trans (hb8.mono (Nat.le_of_lt (Nat.lt_trans hz2w hD6)))
                              have HENV : Hid (Env h w2.heap.size t (dat S tl) _ w8 a1 a3 a4) := ⟨dat_by S tl, HG.out.below HBX (Nat.le_refl _), HDAT.out, by rw [← hh]; exact Nat.le_of_lt (Nat.lt_trans hz2w hD6), by rw [← hh]; exact hD6, by have := HDL.out; omega, HDL.out, by unfold maxLen; omega⟩
                              rw [hh] at hri8 hb8 ⊢
                              have HRX : Hid (RX h w2.heap.size t (dat S tl) w8 w8 s0 0 [] [] [] []) := ⟨hri8, rows_nil _ _, rfl, Below.refl _ _⟩
                              rw [HWQ.out] at HS2 hz2w ⊢
                              have HS8 : Hid (∀ k, k < i → w8.cell? ⟨wq, k, none⟩ = some (.string (S.getD k default))) := fun k hk => by
                                obtain ⟨a', e', hc'⟩ := HS2.out.c k (by rw [HL.out]; exact hk)
                                cases e'
                                rw [add_mk, Nat.zero_add] at hc'
                                have h1 := (HB6.out.cell (World.block_lt_of_cell? _ _ hc')).trans hc'
                                exact (HB8.out.cell (World.block_lt_of_cell? _ _ h1)).trans h1
                              have hwq : wq < h := by rw [← hh]; omega
                              have HALL : Hid (∀ k, k < i → (S.getD k default).size ≤ 65536 ∧ fi (sb (S.getD k default)) 10 = none) := HPL.out
                              have HBW := (show Hid _ from HBX)
                              have hbd : (dat S tl).length ≤ 1048576 := by have := HDL.out; omega
                              clear hri8 hb8 hown6 hgrow6 hb6 HBX HNB HOW HX5 HB5 HB25 HB6 HB8 HDAT HPL hft
                              go_loopg [12, 13] (i + 1) (fun g v12 v13 w9 => ∃ (q c : Nat) (s1 : St) (A1 : List Int) (vs1 : List Value) (args1 : List (List Int)) (L1 : List Int), v12 = .int .i64 (c : Int) ∧ v13 = .int .i64 (q : Int) ∧ q ≤ i ∧ i < g + q ∧ Hid (RX h w2.heap.size t (dat S tl) w8 w9 s1 c A1 vs1 args1 L1) ∧ Hid ((dat S tl).drop c = dat (S.drop q) tl) ∧ A1.length ≤ c ∧ args1.length ≤ c)
                              case atStart => exact ⟨0, 0, s0, [], [], [], [], rfl, rfl, by omega, by omega, HRX.out, rfl, by simp, by simp⟩
                              case round =>
                                clear HRX
                                obtain ⟨q, c, s1, A1, vs1, args1, L1, rfl, rfl, hq, hgq, HR, HDR, hA1, hG1⟩ := hrel
                                have hcN : c ≤ (dat S tl).length := by have := HR.out.ri.cc; have := HR.out.ri.iN; omega
                                have hVl : vs1.length ≤ 2000000 := by rw [HR.out.rows.len]; omega
                                have HE9 := (show Hid _ from HENV.out.below HR.out.bel)
                                have HIN : Hid (Calls Tryd.prog 28 #[.pointer (some ⟨h + 4, 0, none⟩)] wr (Inl h w2.heap.size t (dat S tl) w8 wr a4 c A1 vs1 args1)) := zzInline_any HE9 HR.out (by omega) hVl
                                rcases Nat.lt_or_ge q i with hlt4 | hge4
                                · have hc4 : wr.cell? ⟨wq, q, none⟩ = some (.string (S.getD q default)) := (HR.out.bel.cell (show (⟨wq, q, none⟩ : Addr).block < h from hwq)).trans (HS8.out q hlt4)
                                  have hall := HALL.out q hlt4
                                  have HRL : Hid (rl ((dat S tl).drop c) = ((S.getD q default).size, 0)) := by
                                    show _ = _
                                    rw [HDR.out, drop_at S q (by rw [HL.out]; exact hlt4), dat]
                                    exact rl_line _ _ hall.2 hall.1
                                  have HDR2 : Hid ((dat S tl).drop (c + (S.getD q default).size + 1) = dat (S.drop (q + 1)) tl) := by
                                    show _ = _
                                    rw [Nat.add_assoc, ← List.drop_drop, HDR.out, drop_at S q (by rw [HL.out]; exact hlt4)]
                                    exact dat_next _ _ _
                                  have hsz4 := hall.1
                                  clear hall HDR
                                  generalize S.getD q default = sq at *
                                  have hcq : c + sq.size + 1 ≤ (dat S tl).length := by
                                    have := rl_le ((dat S tl).drop c) (by rw [HRL.out])
                                    rw [HRL.out, List.length_drop] at this
                                    simp only at this
                                    omega
                                  go_wp2_with fail
                                  refine HIN.out.mono ?_
                                  rintro e w10 ⟨ev, rfl, hb10, hst⟩
                                  rcases hst with ⟨_, _, s', vs', L', hx⟩ | ⟨h1, _⟩ | ⟨h1, _⟩
                                  · rw [HRL.out] at hx
                                    have hbs := split_bound (body ((dat S tl).drop c)) A1 args1
                                    have hbl : (body ((dat S tl).drop c)).length ≤ sq.size := by
                                      unfold body
                                      rw [HRL.out, List.length_take]
                                      simp only
                                      omega
                                    generalize split (body ((dat S tl).drop c)) A1 args1 = T at *
                                    obtain ⟨T1, A2, args2⟩ := T
                                    simp only at hx hbs
                                    have HX10 : Hid (RX h w2.heap.size t (dat S tl) w8 w10 s' (c + sq.size + 1) A2 vs' args2 L') := hx
                                    have HOF : Hid (Calls Tryd.prog 27 #[.pointer (some ⟨h + 4, 0, none⟩)] w10 fun e w' => e = .returned (.int .i64 ((c : Int) + ((sq.size : Int) + 1))) ∧ ∃ k, w' = w10.drewN k) := by
                                      have h1 := hx.ri.cc
                                      have h2 := hx.ri.iN
                                      have h3 := hx.ri.n
                                      have := offset_any hx.ri.rs hx.ri.ww hx.ri.rw (by omega) (by omega)
                                      rw [show ((s'.n - (s'.w - s'.r) : Nat) : Int) = (c : Int) + ((sq.size : Int) + 1) by omega] at this
                                      exact this
                                    have hc10 : w10.cell? ⟨wq, q, none⟩ = some (.string sq) := (hb10.cell (show (⟨wq, q, none⟩ : Addr).block < h from hwq)).trans hc4
                                    clear hx HIN hb10 hc4
                                    go_wp2_with (go_at_call 27; refine HOF.out.mono ?_; rintro e w11 ⟨rfl, k11, rfl⟩)
                                    go_roundg (gk - 1)
                                    case rel => exact ⟨q + 1, c + sq.size + 1, s', A2, vs', args2, L', by go_num, by go_num, by omega, by omega, ⟨HX10.out.ri.adv 0 (Nat.zero_le _) rfl rfl rfl rfl rfl (HX10.out.ri.rs.drewN _), HX10.out.rows.drewN _, HX10.out.er, below_drewN HX10.out.bel _⟩, HDR2.out, by omega, by omega⟩
                                    case measure => omega
                                  · rw [HRL.out] at h1; cases h1
                                  · rw [HRL.out] at h1; cases h1
                                · obtain rfl : q = i := by omega
                                  have HRL : Hid (rl ((dat S tl).drop c) = (tl.size, 2)) := by
                                    show _ = _
                                    rw [HDR.out, List.drop_eq_nil_of_le (by rw [HL.out]; omega), dat]
                                    exact rl_tail tl HTL.out h1
                                  clear HDR
                                  go_wp2_with fail
                                  refine HIN.out.mono ?_
                                  rintro e w10 ⟨ev, rfl, hb10, hst⟩
                                  rcases hst with ⟨h2, _⟩ | ⟨h2, _⟩ | ⟨_, rfl, s', L', hx⟩
                                  · rw [HRL.out] at h2; cases h2
                                  · rw [HRL.out] at h2; cases h2
                                  · have HBZ := (HBW.out.trans (hx.bel.mono HENV.out.hB0))
                                    have HBZ2 := (show Hid _ from HBZ)
                                    have HOF : Hid (Calls Tryd.prog 27 #[.pointer (some ⟨h + 4, 0, none⟩)] w10 fun e w' => e = .returned (.int .i64 (n8 : Int)) ∧ ∃ k, w' = w10.drewN k) := by
                                      have h2 := hx.ri.cc
                                      have h3 := hx.ri.iN
                                      have h4 := hx.ri.n
                                      have h5 := HN8.out
                                      have := offset_any hx.ri.rs hx.ri.ww hx.ri.rw (by omega) (by omega)
                                      rw [show s'.n - (s'.w - s'.r) = n8 by omega] at this
                                      exact this
                                    clear hx HIN hb10 HBZ
                                    go_wp2_with (go_at_call 27; refine HOF.out.mono ?_; rintro e w11 ⟨rfl, k11, rfl⟩)
                                    go_ret
                                    exact ⟨rfl, below_drewN HBZ2 _⟩
                  · go_wp2
                    go_ret
                    exact ⟨rfl, Below.refl _ _⟩
        · go_wp2
          go_ret
          exact ⟨rfl, Below.refl _ _⟩
      · go_wp2
        go_ret
        exact ⟨rfl, Below.refl _ _⟩
    · go_wp2
      go_ret
      exact ⟨rfl, Below.refl _ _⟩
end Go.Proofs.Qxb6605687aDoor
