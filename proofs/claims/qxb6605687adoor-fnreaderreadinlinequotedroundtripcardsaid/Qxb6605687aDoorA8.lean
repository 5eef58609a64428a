/- The law on quoted words: the walk. -/
import Derived.Test.Qxb6605687aDoorB8
namespace Go.Proofs.Qxb6605687aDoor
open Go.RowKit
set_option maxHeartbeats 8000000
set_option maxRecDepth 100000
set_option linter.unusedSimpArgs false
set_option linter.unusedVariables false

variable {a1 a3 a4 : Addr}

theorem law8 (p : Option Addr) (cp : Nat) (S : List ByteArray) (W : World) (H : SL W p S) (hn : S.length ≤ maxLen) (hnil : p = none → S.length = 0 ∧ cp = 0) (G : Gl W.heap.size W a1 a3 a4) :
    Calls Tryd.prog 8 #[.slice p S.length cp] W fun e w' => e = .returned (.bool true) ∧ Below W.heap.size W w' := by
  have HS : Hid (SL W p S) := H
  have HG : Hid (Gl W.heap.size W a1 a3 a4) := G
  have hmx : S.length ≤ 9223372036854775807 := by unfold maxLen at hn; omega
  have HGT : Hid (Calls Tryd.prog 31 #[.slice p S.length cp] W fun e w' => (∃ b, e = .returned (.bool b)) ∧ w' = W) := gate31 p cp S W H hn
  have HNIL : Hid (p = none → S.length = 0 ∧ cp = 0) := hnil
  clear H G hn hnil
  obtain ⟨i0, hi0, hz0, hz1, hz2⟩ := info_parts info5d
  generalize hL : S.length = n at *
  have HL : Hid (S.length = n) := hL
  clear hL
  go_enter Tryd.func8, Tryd.ntmps8
  go_wp2_with fail
  refine HGT.out.mono ?_
  rintro e w1 ⟨⟨b, rfl⟩, rfl⟩
  clear HGT
  cases b with
  | false =>
    go_wp2
    go_ret
    exact ⟨rfl, Below.refl _ _⟩
  | true =>
    by_cases hn1 : n ≤ 65536
    · go_wp2
      go_loopg [3, 4] (n + 1) (fun g v3 v4 wr => ∃ t i : Nat, v3 = .int .i64 (t : Int) ∧ v4 = .int .i64 (i : Int) ∧ t ≤ 1048576 ∧ i ≤ n ∧ n < g + i ∧ Hid (∀ k, k < i → (S.getD k default).size ≤ 1048576) ∧ wr = w1)
      case atStart => exact ⟨16 * n, 0, by go_num, rfl, by omega, by omega, by omega, fun k hk => by omega, rfl⟩
      case round =>
        obtain ⟨t, i, rfl, rfl, htt, hi, hg, HSZ, rfl⟩ := hrel
        rcases Nat.lt_or_ge i n with hlt | hge
        · obtain ⟨a, hpa, hc⟩ := HS.out.c i (by rw [HL.out]; exact hlt)
          subst hpa
          have hsz := HS.out.size _ _ _ i (by rw [HL.out]; exact hlt)
          have HPN : Hid ((S.getD i default).size ≤ 1048576 → ∀ k, k < i + 1 → (S.getD k default).size ≤ 1048576) := fun h1 k hk => by
            by_cases e : k = i
            · subst e; exact h1
            · exact HSZ.out k (by omega)
          clear HSZ
          generalize S.getD i default = si at *
          have hsz' : si.size ≤ 9223372036854775807 := by unfold maxLen at hsz; omega
          clear hsz
          by_cases h1 : si.size ≤ 1048576
          · have HPN2 := (show Hid (∀ k, k < i + 1 → (S.getD k default).size ≤ 1048576) from HPN.out h1)
            clear HPN
            by_cases h2 : t + si.size ≤ 1048576
            · go_wp2
              go_roundg (gk - 1)
              case rel => exact ⟨t + si.size, i + 1, by go_num, by go_num, h2, by omega, by omega, HPN2.out, rfl⟩
              case measure => omega
            · go_wp2
              go_ret
              exact ⟨rfl, Below.refl _ _⟩
          · go_wp2
            go_ret
            exact ⟨rfl, Below.refl _ _⟩
        · obtain rfl : i = n := by omega
          clear hge hg htt
          go_wp2
          go_loopg [5, 6] (i + 1) (fun g v5 v6 w2 => ∃ e j : Nat, v5 = .int .i64 (e : Int) ∧ v6 = .int .i64 (j : Int) ∧ Hid (e = (ql ((Sb S).take j)).length) ∧ e ≤ 1048576 ∧ j ≤ i ∧ i < g + j ∧ w2 = wr)
          case atStart => exact ⟨0, 0, rfl, rfl, rfl, by omega, by omega, by omega, rfl⟩
          case round =>
            obtain ⟨e, j, rfl, rfl, HE, hee, hj, hgj, rfl⟩ := hrel
            rcases Nat.lt_or_ge j i with hlt | hge2
            · obtain ⟨g1, hg1⟩ : ∃ g1, gk = g1 + 1 := ⟨gk - 1, by omega⟩
              subst hg1
              obtain ⟨a, hpa, hc⟩ := HS.out.c j (by rw [HL.out]; exact hlt)
              subst hpa
              have hsz := HSZ.out j hlt
              have HQ0 : Hid (j = 0 → (ql ((Sb S).take (j + 1))).length = e + 2 + (ebs (sb (S.getD j default))).length) := fun h => by
                subst h
                rw [ql_take0 S (by rw [HL.out]; exact hlt), List.length_append, ew_len, HE.out]
                omega
              have HQS : Hid (0 < j → (ql ((Sb S).take (j + 1))).length = e + 3 + (ebs (sb (S.getD j default))).length) := fun h => by
                rw [ql_takeS S j (by rw [HL.out]; exact hlt) h, List.length_append, List.length_cons, ew_len, HE.out]
                omega
              generalize S.getD j default = sj at *
              go_upto_if 59 with fail
              go_cut [5] (fun v5 w3 => ∃ e1 : Nat, v5 = .int .i64 (e1 : Int) ∧ e1 ≤ e + 3 ∧ Hid ((ql ((Sb S).take (j + 1))).length = e1 + (ebs (sb sj)).length) ∧ w3 = wr)
              case first =>
                rcases Nat.eq_zero_or_pos j with hj0 | hj0
                · have HQ1 : Hid ((ql ((Sb S).take (j + 1))).length = e + 2 + (ebs (sb sj)).length) := HQ0.out hj0
                  have hd0 : j < 1 := by omega
                  clear hj0
                  go_wp2
                  go_meet
                  case rel => exact ⟨e + 2, by go_num, by omega, HQ1.out, rfl⟩
                · have HQ1 : Hid ((ql ((Sb S).take (j + 1))).length = e + 3 + (ebs (sb sj)).length) := HQS.out hj0
                  go_wp2
                  go_meet
                  case rel => exact ⟨e + 3, by go_num, by omega, HQ1.out, rfl⟩
              case rest =>
                obtain ⟨e1, rfl, he1, HQ1, hwc⟩ := hcut
                have hwc' := hwc.symm
                subst hwc'
                clear HQ0 HQS
                go_wp2
                go_loopg [5, 8] (sj.size + 1) (fun g v5 v8 w3 => ∃ e2 k : Nat, v5 = .int .i64 (e2 : Int) ∧ v8 = .int .i64 (k : Int) ∧ Hid (e2 = e1 + (ebs ((sb sj).take k)).length) ∧ e2 ≤ 1048579 + 4 * k ∧ k ≤ sj.size ∧ sj.size < g + k ∧ w3 = wr)
                case atStart => exact ⟨e1, 0, by go_num, rfl, by show _ = _; simp [ebs], by omega, by omega, by omega, rfl⟩
                case round =>
                  obtain ⟨e2, k, rfl, rfl, HE2, he2, hk, hgk, rfl⟩ := hrel
                  rcases Nat.lt_or_ge k sj.size with hlt2 | hge3
                  · have hd : decide ((k : Int) < sj.size) = true := by simp; omega
                    have hbk := sb_get sj k hlt2
                    have HT : Hid (ebs ((sb sj).take (k + 1)) = ebs ((sb sj).take k) ++ eb (sa sj k)) := ebs_take sj k hlt2
                    clear hc
                    generalize sa sj k = ck at *
                    cases hv : isEs ck with
                    | true =>
                      have HE3 : Hid (e2 + 4 = e1 + (ebs ((sb sj).take (k + 1))).length) := by
                        show _ = _
                        rw [HT.out, List.length_append, eb_es ck hv, HE2.out]
                        simp
                        omega
                      go_wp2_with (go_at_call 32; refine (escaped_is ck true _ hv).mono ?_; rintro e w' ⟨rfl, rfl⟩)
                      go_roundg (gk - 1)
                      case rel => exact ⟨e2 + 4, k + 1, by go_num, by go_num, HE3.out, by omega, by omega, by omega, rfl⟩
                      case measure => omega
                    | false =>
                      have HE3 : Hid (e2 + 1 = e1 + (ebs ((sb sj).take (k + 1))).length) := by
                        show _ = _
                        rw [HT.out, List.length_append, eb_no ck hv, HE2.out]
                        simp
                        omega
                      go_wp2_with (go_at_call 32; refine (escaped_is ck false _ hv).mono ?_; rintro e w' ⟨rfl, rfl⟩)
                      go_roundg (gk - 1)
                      case rel => exact ⟨e2 + 1, k + 1, by go_num, by go_num, HE3.out, by omega, by omega, by omega, rfl⟩
                      case measure => omega
                  · have HE3 : Hid (e2 = (ql ((Sb S).take (j + 1))).length) := by
                      show _ = _
                      rw [HQ1.out, HE2.out, List.take_of_length_le (by rw [sb_len]; omega)]
                    clear hc
                    by_cases h2 : e2 ≤ 1048576
                    · go_wp2
                      go_roundg g1
                      case rel => exact ⟨e2, j + 1, rfl, by go_num, HE3.out, h2, by omega, by omega, rfl⟩
                      case measure => omega
                    · go_wp2
                      go_ret
                      exact ⟨rfl, Below.refl _ _⟩
            · obtain rfl : j = i := by omega
              obtain ⟨b0, hb0⟩ : ∃ b0, p.isSome = b0 := ⟨_, rfl⟩
              have hq : ∀ W, (binOp .neq 51 (.slice p j cp) (.slice none 0 0)).run Tryd.prog W = .ok (.bool b0) W := by
                intro W
                rw [← hb0]
                cases p with
                | none => 
                  obtain ⟨h1, h2⟩ := HNIL.out rfl
                  subst h1 h2
                  exact Go.run_neq_slice_nil W 51 9 none 0 0 Tryd.underlying51
                | some a => exact neq51 W a j cp
              have HB0 : Hid (p.isSome = b0) := hb0
              clear hb0
              go_upto_if 83 with fail
              clear hq
              go_cut [0] (fun v0 w2 => ∃ p2 cp2, v0 = .slice p2 j cp2 ∧ Hid (SL w2 p2 S) ∧ Hid (Below wr.heap.size wr w2))
              case first =>
                rcases hp : p with _ | a
                · have hb1 : b0 = false := by rw [← HB0.out, hp]; rfl
                  subst hb1
                  subst hp
                  go_wp2
                  go_meet
                  case rel => exact ⟨none, cp, rfl, HS.out, Below.refl _ _⟩
                · have hb1 : b0 = true := by rw [← HB0.out, hp]; rfl
                  subst hb1
                  subst hp
                  have hmk := run_make_row' (P := Tryd.prog) 51 9 (.string ⟨#[]⟩) 16 Tryd.underlying51 info9 rfl .i64 .i64 j (by omega) (by omega)
                  have HSR : Hid (∀ k v, (S.map Value.string)[k]? = some v → (wr.alloc (.cells (madeCells #[.string ⟨#[]⟩] j) 9)).cell? (a.add k) = some v) := fun k v hk => by
                    obtain ⟨hk1, rfl⟩ := List.getElem?_eq_some_iff.1 hk
                    rw [List.length_map] at hk1
                    obtain ⟨a', e', hc⟩ := HS.out.c k hk1
                    cases e'
                    have hlt := World.block_lt_of_cell? _ _ hc
                    rw [World.cell?_alloc_lt _ _ _ hlt, hc]
                    simp [hk1]
                  have HMZ : Hid ((madeCells #[.string ⟨#[]⟩] j).size = j) := size_madeCells _ _
                  have HSL : Hid ((S.map Value.string).length = j) := (List.length_map _).trans HL.out
                  go_wp2_with (refine wpList_copy_at (by rfl) _ _ 51 51 (by rfl) 9 Tryd.underlying51 (by kernel_rfl) wr.heap.size 0 j j a j cp (by rfl) (by rfl) _ 9 (heap_alloc_new wr _) (S.map Value.string) j (Nat.min_self j) HSL.out HSR.out (by rw [HSL.out, HMZ.out]; omega) (strs_one S) _ rfl ?_)
                  go_meet
                  case rel =>
                    refine ⟨some ⟨wr.heap.size, 0, none⟩, j, rfl, ?_, ?_⟩
                    · have := SL.copied (w := wr) (S := S) (M := madeCells #[.string ⟨#[]⟩] j) (HMZ.out.trans HL.out.symm) HS.out.mx
                      show SL _ _ S
                      simpa using this
                    · exact below_setRow ((Below.refl _ wr).alloc (Nat.le_refl _) _) _ _ (Nat.le_refl _)
              case rest =>
                obtain ⟨p2, cp2, rfl, HS2, HB2⟩ := hcut
                obtain ⟨W0, hW0⟩ : ∃ W0, W0 = wr := ⟨_, rfl⟩
                subst hW0
                have HEQ : Hid (e = (ql (Sb S)).length) := by
                  have := HE.out
                  rw [List.take_of_length_le (by rw [Sb_len, HL.out]; exact Nat.le_refl _)] at this
                  exact this
                have HAL : Hid (∀ i, (ql ((Sb S).take i)).length ≤ e) := fun i => by rw [HEQ.out]; exact ql_take_le _ _
                clear HE HS HNIL HB0
                go_wp2_with (at_make; refine wpList_make_own _ rfl _ _ 24 rfl wc.heap.size 5 i0 (.int .u8 0) 1 Tryd.underlying24 hi0 hz0 hz1 _ _ _ (e + 1) rfl rfl rfl (by rw [hz2]; omega) (by unfold maxLen; omega) (Nat.le_refl _) ?_; intro w4 hown4 hgrow4)
                have HOW0 : Hid (w4.ownsRow wc.heap.size 5 1 (.slice (some ⟨wc.heap.size, 0, none⟩) 0 (e + 1)) 0 (u8s [])) := hown4
                have HB4 : Hid (Below wc.heap.size wc w4) := (Below.refl _ wc).grown hgrow4 (Nat.le_refl _) (fun k h => by cases h)
                clear hown4 hgrow4
                go_loopg [10, 11] (j + 1) (fun g v10 v11 w5 => ∃ (q : Nat) (X : List Int), v10 = .slice (some ⟨wc.heap.size, 0, none⟩) X.length (e + 1) ∧ v11 = .int .i64 (q : Int) ∧ q ≤ j ∧ j < g + q ∧ Hid (X = ql ((Sb S).take q)) ∧ Hid (w5.ownsRow wc.heap.size 5 1 (.slice (some ⟨wc.heap.size, 0, none⟩) X.length (e + 1)) X.length (u8s X)) ∧ Hid (Below wc.heap.size wc w5))
                case atStart => exact ⟨0, [], rfl, rfl, by omega, by omega, rfl, HOW0.out, HB4.out⟩
                case round =>
                  clear HOW0 HB4
                  obtain ⟨q, X, rfl, rfl, hq, hgq, HX, HOW, HB5⟩ := hrel
                  obtain ⟨g1, hg1⟩ : ∃ g1, gk = g1 + 1 := ⟨gk - 1, by omega⟩
                  subst hg1
                  have HB_wr := HB5.out
                  rcases Nat.lt_or_ge q j with hlt | hge
                  · obtain ⟨a, hpa, hc0⟩ := HS2.out.c q (by rw [HL.out]; exact hlt)
                    subst hpa
                    have hblk := World.block_lt_of_cell? _ _ hc0
                    have hsz := HSZ.out q hlt
                    have HFIT : Hid ((ql ((Sb S).take (q + 1))).length ≤ e) := HAL.out _
                    have HQ0 : Hid (q = 0 → ql ((Sb S).take (q + 1)) = X ++ ew (sb (S.getD q default))) := fun h => by
                      subst h
                      rw [HX.out]
                      exact ql_take0 S (by rw [HL.out]; exact hlt)
                    have HQS : Hid (0 < q → ql ((Sb S).take (q + 1)) = X ++ 32 :: ew (sb (S.getD q default))) := fun h => by
                      rw [HX.out]
                      exact ql_takeS S q (by rw [HL.out]; exact hlt) h
                    clear HX
                    have HC0 : Hid (wc.cell? (a.add q) = some (.string (S.getD q default))) := hc0
                    clear hc0
                    generalize S.getD q default = sq at *
                    rcases Nat.eq_zero_or_pos q with hq0 | hq0
                    · have HQ1 : Hid (ql ((Sb S).take (q + 1)) = X ++ [34] ++ (ebs (sb sq) ++ [34])) := by
                        show _ = _
                        rw [HQ0.out hq0]
                        simp [ew]
                      clear HQ0 HQS
                      have hfx : X.length + 1 ≤ e := by
                        have h1 := HFIT.out
                        rw [HQ1.out] at h1
                        simp only [List.length_append, List.length_cons, List.length_nil] at h1
                        omega
                      have hd0 : q < 1 := by omega
                      clear hq0
                      obtain ⟨X1, hX1⟩ : ∃ X1, X ++ [34] = X1 := ⟨_, rfl⟩
                      go_wp2_with (at_builtin; refine wpList_append_fits _ (by rfl) _ _ 24 (by rfl) wc.heap.size 5 i0 1 Tryd.underlying24 hi0 hz1 wc.heap.size (X.length) (e + 1) (u8s X) (by rfl) ((HOW.out).alloc _) ⟨wr.heap.size, 0, none⟩ 1 1 [.int .u8 34] (by rfl) (by rfl) (World.news_of_block (cs := #[.int .u8 34]) (t := 5) (fr := (0, 0)) (heap_alloc_new wr _)) (by simp [Value.oneCell']) (by omega) ?_; intro w6 hown_w6 hgrow_w6; have hb_w6 := (HB_wr.alloc HB_wr.size (.cells #[.int .u8 34] 5)).grown hgrow_w6 (Below.alloc HB_wr HB_wr.size (.cells #[.int .u8 34] 5)).size (fun k hk => by cases hk; exact Nat.le_refl _); have HB_w6 := hb_w6; have hc_w6 := (HB_w6.cell hblk).trans HC0.out)
                      have HOW6 : Hid (w6.ownsRow wc.heap.size 5 1 (.slice (some ⟨wc.heap.size, 0, none⟩) (X ++ [34]).length (e + 1)) (X ++ [34]).length (u8s (X ++ [34]))) := by
                        show _; rw [List.length_append, u8s_append]; exact hown_w6
                      have HBL : Hid (Below wc.heap.size wc w6) := HB_w6
                      have hlx : X1.length = X.length + 1 := by rw [← hX1]; simp
                      rw [hX1] at HOW6 HQ1
                      have HFX : Hid (X1.length + (ebs (sb sq)).length + 1 ≤ e) := by
                        have h1 := HFIT.out
                        rw [HQ1.out] at h1
                        simp only [List.length_append, List.length_cons, List.length_nil] at h1
                        show _ ≤ _
                        omega
                      clear hc_w6
                      go_loopg [10, 13] (sq.size + 1) (fun g v10 v13 w8 => ∃ (k : Nat) (Y : List Int), v10 = .slice (some ⟨wc.heap.size, 0, none⟩) Y.length (e + 1) ∧ v13 = .int .i64 (k : Int) ∧ k ≤ sq.size ∧ sq.size < g + k ∧ Hid (Y = X1 ++ ebs ((sb sq).take k)) ∧ Hid (w8.ownsRow wc.heap.size 5 1 (.slice (some ⟨wc.heap.size, 0, none⟩) Y.length (e + 1)) Y.length (u8s Y)) ∧ Hid (Below wc.heap.size wc w8))
                      case atStart => exact ⟨0, X1, by rw [hlx], rfl, by omega, by omega, by show _ = _; simp [ebs], HOW6.out, HBL.out⟩
                      case round =>
                        obtain ⟨k, Y, rfl, rfl, hk, hgk, HY, HOY, HBY⟩ := hrel
                        have HB_wr := HBY.out
                        rcases Nat.lt_or_ge k sq.size with hlt2 | hge2
                        · have hd : decide ((k : Int) < sq.size) = true := by simp; omega
                          have hbk := sb_get sq k hlt2
                          have hrg := sa_rng sq k
                          have HT : Hid (ebs ((sb sq).take (k + 1)) = ebs ((sb sq).take k) ++ eb (sa sq k)) := ebs_take sq k hlt2
                          have HFY : Hid (Y.length + (eb (sa sq k)).length ≤ e) := by
                            have h1 := congrArg List.length HY.out
                            have h2 := congrArg List.length HT.out
                            have h3 := ebs_take_le (sb sq) (k + 1)
                            have h4 := HFX.out
                            simp only [List.length_append] at h1 h2
                            show _ ≤ _
                            omega
                          generalize sa sq k = ck at *
                          cases hv : isEs ck with
                          | true =>
                            have hfy : Y.length + 4 ≤ e := by have := HFY.out; rw [eb_es ck hv] at this; simpa using this
                            obtain ⟨x, hx⟩ : ∃ x, ck / 16 = x := ⟨_, rfl⟩
                            obtain ⟨y, hy⟩ : ∃ y, ck % 16 = y := ⟨_, rfl⟩
                            have hxr : 0 ≤ x ∧ x ≤ 15 := by omega
                            have hyr : 0 ≤ y ∧ y ≤ 15 := by omega
                            have HY2 : Hid (Y ++ [92, 120, hxd x, hxd y] = X1 ++ ebs ((sb sq).take (k + 1))) := by
                              show _ = _
                              rw [HY.out, HT.out, eb_es ck hv, List.append_assoc, hx, hy]
                            have HZX : Hid (∀ w, Calls Tryd.prog 33 #[.int .u8 x] w fun e w' => e = .returned (.int .u8 (hxd x)) ∧ w' = w) := fun w => zzHex_is x w hxr
                            have HZY : Hid (∀ w, Calls Tryd.prog 33 #[.int .u8 y] w fun e w' => e = .returned (.int .u8 (hxd y)) ∧ w' = w) := fun w => zzHex_is y w hyr
                            generalize hxd x = dx at *
                            generalize hxd y = dy at *
                            go_wp2_with (first | (go_at_call 32; refine (escaped_is ck true _ hv).mono ?_; rintro e9 w9 ⟨rfl, h9⟩; rw [h9]; clear h9 w9) | fail)
                            refine (HZX.out _).mono ?_
                            rintro e9 w9 ⟨rfl, h9⟩
                            rw [h9]
                            clear h9 w9 HZX
                            go_wp2_with fail
                            refine (HZY.out _).mono ?_
                            rintro e9 w9 ⟨rfl, h9⟩
                            rw [h9]
                            clear h9 w9 HZY
                            go_wp2_with (at_builtin; refine wpList_append_fits _ (by rfl) _ _ 24 (by rfl) wc.heap.size 5 i0 1 Tryd.underlying24 hi0 hz1 wc.heap.size Y.length (e + 1) (u8s Y) (by rfl) (HOY.out.alloc _) ⟨wr.heap.size, 0, none⟩ 4 4 [.int .u8 92, .int .u8 120, .int .u8 dx, .int .u8 dy] (by rfl) (by rfl) (World.news_of_block (cs := #[.int .u8 92, .int .u8 120, .int .u8 dx, .int .u8 dy]) (t := 5) (fr := (0, 0)) (heap_alloc_new wr _)) (by simp [Value.oneCell']) (by omega) ?_; intro w9 hown_w9 hgrow_w9; have HB_w9 := (HB_wr.alloc HB_wr.size (.cells #[.int .u8 92, .int .u8 120, .int .u8 dx, .int .u8 dy] 5)).grown hgrow_w9 (Below.alloc HB_wr HB_wr.size (.cells #[.int .u8 92, .int .u8 120, .int .u8 dx, .int .u8 dy] 5)).size (fun k hk => by cases hk; exact Nat.le_refl _))
                            go_roundg (gk - 1)
                            case rel => exact ⟨k + 1, Y ++ [92, 120, dx, dy], by simp, by go_num, by omega, by omega, HY2.out, by rw [List.length_append, u8s_append]; exact hown_w9, HB_w9⟩
                            case measure => omega
                          | false =>
                            have hfy : Y.length + 1 ≤ e := by have := HFY.out; rw [eb_no ck hv] at this; simpa using this
                            have HY2 : Hid (Y ++ [ck] = X1 ++ ebs ((sb sq).take (k + 1))) := by
                              show _ = _
                              rw [HY.out, HT.out, eb_no ck hv, List.append_assoc]
                            go_wp2_with (first | (go_at_call 32; refine (escaped_is ck false _ hv).mono ?_; rintro e9 w9 ⟨rfl, h9⟩; rw [h9]; clear h9 w9) | (at_builtin; refine wpList_append_fits _ (by rfl) _ _ 24 (by rfl) wc.heap.size 5 i0 1 Tryd.underlying24 hi0 hz1 wc.heap.size (Y.length) (e + 1) (u8s Y) (by rfl) ((HOY.out).alloc _) ⟨wr.heap.size, 0, none⟩ 1 1 [.int .u8 ck] (by rfl) (by rfl) (World.news_of_block (cs := #[.int .u8 ck]) (t := 5) (fr := (0, 0)) (heap_alloc_new wr _)) (by simp [Value.oneCell']) (by omega) ?_; intro w9 hown_w9 hgrow_w9; have hb_w9 := (HB_wr.alloc HB_wr.size (.cells #[.int .u8 ck] 5)).grown hgrow_w9 (Below.alloc HB_wr HB_wr.size (.cells #[.int .u8 ck] 5)).size (fun k hk => by cases hk; exact Nat.le_refl _); have HB_w9 := hb_w9))
                            go_roundg (gk - 1)
                            case rel => exact ⟨k + 1, Y ++ [ck], by simp, by go_num, by omega, by omega, HY2.out, by rw [List.length_append, u8s_append]; exact hown_w9, HB_w9⟩
                            case measure => omega
                        · have HY2 : Hid (Y ++ [34] = ql ((Sb S).take (q + 1))) := by
                            show _ = _
                            rw [HQ1.out, HY.out, List.take_of_length_le (by rw [sb_len]; omega)]
                            simp
                          have hfy : Y.length + 1 ≤ e := by
                            have h1 := congrArg List.length HY2.out
                            have h2 := HFIT.out
                            simp only [List.length_append, List.length_cons, List.length_nil] at h1
                            omega
                          go_wp2_with (at_builtin; refine wpList_append_fits _ (by rfl) _ _ 24 (by rfl) wc.heap.size 5 i0 1 Tryd.underlying24 hi0 hz1 wc.heap.size (Y.length) (e + 1) (u8s Y) (by rfl) ((HOY.out).alloc _) ⟨wr.heap.size, 0, none⟩ 1 1 [.int .u8 34] (by rfl) (by rfl) (World.news_of_block (cs := #[.int .u8 34]) (t := 5) (fr := (0, 0)) (heap_alloc_new wr _)) (by simp [Value.oneCell']) (by omega) ?_; intro w9 hown_w9 hgrow_w9; have hb_w9 := (HB_wr.alloc HB_wr.size (.cells #[.int .u8 34] 5)).grown hgrow_w9 (Below.alloc HB_wr HB_wr.size (.cells #[.int .u8 34] 5)).size (fun k hk => by cases hk; exact Nat.le_refl _); have HB_w9 := hb_w9)
                          go_roundg g1
                          case rel => exact ⟨q + 1, Y ++ [34], by simp, by go_num, by omega, by omega, HY2.out, by rw [List.length_append, u8s_append]; exact hown_w9, HB_w9⟩
                          case measure => omega
                    · have HQ1 : Hid (ql ((Sb S).take (q + 1)) = X ++ [32] ++ [34] ++ (ebs (sb sq) ++ [34])) := by
                        show _ = _
                        rw [HQS.out hq0]
                        simp [ew]
                      clear HQ0 HQS
                      have hfx : X.length + 1 + 1 ≤ e := by
                        have h1 := HFIT.out
                        rw [HQ1.out] at h1
                        simp only [List.length_append, List.length_cons, List.length_nil] at h1
                        omega
                      obtain ⟨X1, hX1⟩ : ∃ X1, X ++ [32] ++ [34] = X1 := ⟨_, rfl⟩
                      go_wp2_with (first | (at_builtin; refine wpList_append_fits _ (by rfl) _ _ 24 (by rfl) wc.heap.size 5 i0 1 Tryd.underlying24 hi0 hz1 wc.heap.size (X.length) (e + 1) (u8s X) (by rfl) ((HOW.out).alloc _) ⟨wr.heap.size, 0, none⟩ 1 1 [.int .u8 32] (by rfl) (by rfl) (World.news_of_block (cs := #[.int .u8 32]) (t := 5) (fr := (0, 0)) (heap_alloc_new wr _)) (by simp [Value.oneCell']) (by omega) ?_; intro w6 hown_w6 hgrow_w6; have hb_w6 := (HB_wr.alloc HB_wr.size (.cells #[.int .u8 32] 5)).grown hgrow_w6 (Below.alloc HB_wr HB_wr.size (.cells #[.int .u8 32] 5)).size (fun k hk => by cases hk; exact Nat.le_refl _); have HB_w6 := hb_w6; have hc_w6 := (HB_w6.cell hblk).trans HC0.out) | (at_builtin; refine wpList_append_fits _ (by rfl) _ _ 24 (by rfl) wc.heap.size 5 i0 1 Tryd.underlying24 hi0 hz1 wc.heap.size (X.length + 1) (e + 1) (u8s X ++ [.int .u8 32]) (by rfl) ((hown_w6).alloc _) ⟨w6.heap.size, 0, none⟩ 1 1 [.int .u8 34] (by rfl) (by rfl) (World.news_of_block (cs := #[.int .u8 34]) (t := 5) (fr := (0, 0)) (heap_alloc_new w6 _)) (by simp [Value.oneCell']) (by omega) ?_; intro w7 hown_w7 hgrow_w7; have hb_w7 := (HB_w6.alloc HB_w6.size (.cells #[.int .u8 34] 5)).grown hgrow_w7 (Below.alloc HB_w6 HB_w6.size (.cells #[.int .u8 34] 5)).size (fun k hk => by cases hk; exact Nat.le_refl _); have HB_w7 := hb_w7; have hc_w7 := (HB_w7.cell hblk).trans HC0.out))
                      have HOW6 : Hid (w7.ownsRow wc.heap.size 5 1 (.slice (some ⟨wc.heap.size, 0, none⟩) (X ++ [32] ++ [34]).length (e + 1)) (X ++ [32] ++ [34]).length (u8s (X ++ [32] ++ [34]))) := by
                        show _; rw [List.length_append, List.length_append, u8s_append, u8s_append]; exact hown_w7
                      have HBL : Hid (Below wc.heap.size wc w7) := HB_w7
                      have hlx : X1.length = X.length + 1 + 1 := by rw [← hX1]; simp
                      rw [hX1] at HOW6 HQ1
                      have HFX : Hid (X1.length + (ebs (sb sq)).length + 1 ≤ e) := by
                        have h1 := HFIT.out
                        rw [HQ1.out] at h1
                        simp only [List.length_append, List.length_cons, List.length_nil] at h1
                        show _ ≤ _
                        omega
                      clear hc_w7
                      go_loopg [10, 13] (sq.size + 1) (fun g v10 v13 w8 => ∃ (k : Nat) (Y : List Int), v10 = .slice (some ⟨wc.heap.size, 0, none⟩) Y.length (e + 1) ∧ v13 = .int .i64 (k : Int) ∧ k ≤ sq.size ∧ sq.size < g + k ∧ Hid (Y = X1 ++ ebs ((sb sq).take k)) ∧ Hid (w8.ownsRow wc.heap.size 5 1 (.slice (some ⟨wc.heap.size, 0, none⟩) Y.length (e + 1)) Y.length (u8s Y)) ∧ Hid (Below wc.heap.size wc w8))
                      case atStart => exact ⟨0, X1, by rw [hlx], rfl, by omega, by omega, by show _ = _; simp [ebs], HOW6.out, HBL.out⟩
                      case round =>
                        obtain ⟨k, Y, rfl, rfl, hk, hgk, HY, HOY, HBY⟩ := hrel
                        have HB_wr := HBY.out
                        rcases Nat.lt_or_ge k sq.size with hlt2 | hge2
                        · have hd : decide ((k : Int) < sq.size) = true := by simp; omega
                          have hbk := sb_get sq k hlt2
                          have hrg := sa_rng sq k
                          have HT : Hid (ebs ((sb sq).take (k + 1)) = ebs ((sb sq).take k) ++ eb (sa sq k)) := ebs_take sq k hlt2
                          have HFY : Hid (Y.length + (eb (sa sq k)).length ≤ e) := by
                            have h1 := congrArg List.length HY.out
                            have h2 := congrArg List.length HT.out
                            have h3 := ebs_take_le (sb sq) (k + 1)
                            have h4 := HFX.out
                            simp only [List.length_append] at h1 h2
                            show _ ≤ _
                            omega
                          generalize sa sq k = ck at *
                          cases hv : isEs ck with
                          | true =>
                            have hfy : Y.length + 4 ≤ e := by have := HFY.out; rw [eb_es ck hv] at this; simpa using this
                            obtain ⟨x, hx⟩ : ∃ x, ck / 16 = x := ⟨_, rfl⟩
                            obtain ⟨y, hy⟩ : ∃ y, ck % 16 = y := ⟨_, rfl⟩
                            have hxr : 0 ≤ x ∧ x ≤ 15 := by omega
                            have hyr : 0 ≤ y ∧ y ≤ 15 := by omega
                            have HY2 : Hid (Y ++ [92, 120, hxd x, hxd y] = X1 ++ ebs ((sb sq).take (k + 1))) := by
                              show _ = _
                              rw [HY.out, HT.out, eb_es ck hv, List.append_assoc, hx, hy]
                            have HZX : Hid (∀ w, Calls Tryd.prog 33 #[.int .u8 x] w fun e w' => e = .returned (.int .u8 (hxd x)) ∧ w' = w) := fun w => zzHex_is x w hxr
                            have HZY : Hid (∀ w, Calls Tryd.prog 33 #[.int .u8 y] w fun e w' => e = .returned (.int .u8 (hxd y)) ∧ w' = w) := fun w => zzHex_is y w hyr
                            generalize hxd x = dx at *
                            generalize hxd y = dy at *
                            go_wp2_with (first | (go_at_call 32; refine (escaped_is ck true _ hv).mono ?_; rintro e9 w9 ⟨rfl, h9⟩; rw [h9]; clear h9 w9) | fail)
                            refine (HZX.out _).mono ?_
                            rintro e9 w9 ⟨rfl, h9⟩
                            rw [h9]
                            clear h9 w9 HZX
                            go_wp2_with fail
                            refine (HZY.out _).mono ?_
                            rintro e9 w9 ⟨rfl, h9⟩
                            rw [h9]
                            clear h9 w9 HZY
                            go_wp2_with (at_builtin; refine wpList_append_fits _ (by rfl) _ _ 24 (by rfl) wc.heap.size 5 i0 1 Tryd.underlying24 hi0 hz1 wc.heap.size Y.length (e + 1) (u8s Y) (by rfl) (HOY.out.alloc _) ⟨wr.heap.size, 0, none⟩ 4 4 [.int .u8 92, .int .u8 120, .int .u8 dx, .int .u8 dy] (by rfl) (by rfl) (World.news_of_block (cs := #[.int .u8 92, .int .u8 120, .int .u8 dx, .int .u8 dy]) (t := 5) (fr := (0, 0)) (heap_alloc_new wr _)) (by simp [Value.oneCell']) (by omega) ?_; intro w9 hown_w9 hgrow_w9; have HB_w9 := (HB_wr.alloc HB_wr.size (.cells #[.int .u8 92, .int .u8 120, .int .u8 dx, .int .u8 dy] 5)).grown hgrow_w9 (Below.alloc HB_wr HB_wr.size (.cells #[.int .u8 92, .int .u8 120, .int .u8 dx, .int .u8 dy] 5)).size (fun k hk => by cases hk; exact Nat.le_refl _))
                            go_roundg (gk - 1)
                            case rel => exact ⟨k + 1, Y ++ [92, 120, dx, dy], by simp, by go_num, by omega, by omega, HY2.out, by rw [List.length_append, u8s_append]; exact hown_w9, HB_w9⟩
                            case measure => omega
                          | false =>
                            have hfy : Y.length + 1 ≤ e := by have := HFY.out; rw [eb_no ck hv] at this; simpa using this
                            have HY2 : Hid (Y ++ [ck] = X1 ++ ebs ((sb sq).take (k + 1))) := by
                              show _ = _
                              rw [HY.out, HT.out, eb_no ck hv, List.append_assoc]
                            go_wp2_with (first | (go_at_call 32; refine (escaped_is ck false _ hv).mono ?_; rintro e9 w9 ⟨rfl, h9⟩; rw [h9]; clear h9 w9) | (at_builtin; refine wpList_append_fits _ (by rfl) _ _ 24 (by rfl) wc.heap.size 5 i0 1 Tryd.underlying24 hi0 hz1 wc.heap.size (Y.length) (e + 1) (u8s Y) (by rfl) ((HOY.out).alloc _) ⟨wr.heap.size, 0, none⟩ 1 1 [.int .u8 ck] (by rfl) (by rfl) (World.news_of_block (cs := #[.int .u8 ck]) (t := 5) (fr := (0, 0)) (heap_alloc_new wr _)) (by simp [Value.oneCell']) (by omega) ?_; intro w9 hown_w9 hgrow_w9; have hb_w9 := (HB_wr.alloc HB_wr.size (.cells #[.int .u8 ck] 5)).grown hgrow_w9 (Below.alloc HB_wr HB_wr.size (.cells #[.int .u8 ck] 5)).size (fun k hk => by cases hk; exact Nat.le_refl _); have HB_w9 := hb_w9))
                            go_roundg (gk - 1)
                            case rel => exact ⟨k + 1, Y ++ [ck], by simp, by go_num, by omega, by omega, HY2.out, by rw [List.length_append, u8s_append]; exact hown_w9, HB_w9⟩
                            case measure => omega
                        · have HY2 : Hid (Y ++ [34] = ql ((Sb S).take (q + 1))) := by
                            show _ = _
                            rw [HQ1.out, HY.out, List.take_of_length_le (by rw [sb_len]; omega)]
                            simp
                          have hfy : Y.length + 1 ≤ e := by
                            have h1 := congrArg List.length HY2.out
                            have h2 := HFIT.out
                            simp only [List.length_append, List.length_cons, List.length_nil] at h1
                            omega
                          go_wp2_with (at_builtin; refine wpList_append_fits _ (by rfl) _ _ 24 (by rfl) wc.heap.size 5 i0 1 Tryd.underlying24 hi0 hz1 wc.heap.size (Y.length) (e + 1) (u8s Y) (by rfl) ((HOY.out).alloc _) ⟨wr.heap.size, 0, none⟩ 1 1 [.int .u8 34] (by rfl) (by rfl) (World.news_of_block (cs := #[.int .u8 34]) (t := 5) (fr := (0, 0)) (heap_alloc_new wr _)) (by simp [Value.oneCell']) (by omega) ?_; intro w9 hown_w9 hgrow_w9; have hb_w9 := (HB_wr.alloc HB_wr.size (.cells #[.int .u8 34] 5)).grown hgrow_w9 (Below.alloc HB_wr HB_wr.size (.cells #[.int .u8 34] 5)).size (fun k hk => by cases hk; exact Nat.le_refl _); have HB_w9 := hb_w9)
                          go_roundg g1
                          case rel => exact ⟨q + 1, Y ++ [34], by simp, by go_num, by omega, by omega, HY2.out, by rw [List.length_append, u8s_append]; exact hown_w9, HB_w9⟩
                          case measure => omega
                  · obtain rfl : q = j := by omega
                    have HXQ : Hid (X = ql (Sb S)) := by
                      have := HX.out
                      rw [List.take_of_length_le (by rw [Sb_len, HL.out]; exact Nat.le_refl _)] at this
                      exact this
                    have HXL : Hid (X.length = e) := by show _ = _; rw [HXQ.out, HEQ.out]
                    have hXe : X.length ≤ e := Nat.le_of_eq HXL.out
                    have HXM : Hid (∀ x ∈ X, 32 ≤ x ∧ x ≤ 126) := by rw [HXQ.out]; exact ql_mem _ (Sb_by S)
                    have HNB : Hid (∀ w, Calls Tryd.prog 26 #[.slice (some ⟨wc.heap.size, 0, none⟩) (X.length + 1) (e + 1)] w fun e' w' => e' = .returned (.pointer (some ⟨w.heap.size + 4, 0, none⟩)) ∧ RI w.heap.size wc.heap.size (e + 1) (X ++ [10]) w' s0 0 ∧ Below w.heap.size w w') := fun w => by
                      have := newBytes_any wc.heap.size (e + 1) (X ++ [10]) w
                      rw [List.length_append] at this
                      exact this
                    clear HX HAL
                    go_wp2_with (first | (at_builtin; refine wpList_append_fits _ (by rfl) _ _ 24 (by rfl) wc.heap.size 5 i0 1 Tryd.underlying24 hi0 hz1 wc.heap.size (X.length) (e + 1) (u8s X) (by rfl) ((HOW.out).alloc _) ⟨wr.heap.size, 0, none⟩ 1 1 [.int .u8 10] (by rfl) (by rfl) (World.news_of_block (cs := #[.int .u8 10]) (t := 5) (fr := (0, 0)) (heap_alloc_new wr _)) (by simp [Value.oneCell']) (by omega) ?_; intro w6 hown_w6 hgrow_w6; have hb_w6 := (HB_wr.alloc HB_wr.size (.cells #[.int .u8 10] 5)).grown hgrow_w6 (Below.alloc HB_wr HB_wr.size (.cells #[.int .u8 10] 5)).size (fun k hk => by cases hk; exact Nat.le_refl _); have HB_w6 := hb_w6) | (go_at_call 26; refine (HNB.out _).mono ?_; rintro e8 w8 ⟨rfl, hri8, hb8⟩))
                    have hD6 : wc.heap.size < w6.heap.size := (hown_w6.lt wc.heap.size rfl).2
                    obtain ⟨h, hh⟩ : ∃ h, w6.heap.size = h := ⟨_, rfl⟩
                    have HDAT : Hid (Dat w8 wc.heap.size (X ++ [10])) := fun k hk => by
                      have h1 : w8.cell? ⟨wc.heap.size, k, none⟩ = w6.cell? ⟨wc.heap.size, k, none⟩ := hb8.cell (show (⟨wc.heap.size, k, none⟩ : Addr).block < w6.heap.size from hD6)
                      rw [h1]
                      have hcs := hown_w6.cells (g := wc.heap.size) rfl k (.int .u8 ((X ++ [10]).getD k 0)) (by
                        rw [show u8s X ++ [Value.int .u8 10] = u8s (X ++ [10]) from (u8s_append X [10]).symm]
                        exact u8s_get _ _ hk)
                      rw [add_mk, Nat.zero_add] at hcs
                      exact hcs
                    have hW0 := HB2.out.size
                    have HBX := (HB2.out.trans (HB_w6.mono hW0)).trans (hb8.mono (Nat.le_of_lt (Nat.lt_of_le_of_lt hW0 hD6)))
                    have HENV : Hid (Env h wc.heap.size (e + 1) (X ++ [10]) W0.heap.size w8 a1 a3 a4) := ⟨fun x hx => by
                        rcases List.mem_append.1 hx with hx | hx
                        · have := HXM.out x hx; omega
                        · simp at hx; omega, HG.out.below HBX (Nat.le_refl _), HDAT.out, by rw [← hh]; exact Nat.le_of_lt (Nat.lt_of_le_of_lt hW0 hD6), by rw [← hh]; exact hD6, by simp; omega, by simp; omega, by unfold maxLen; omega⟩
                    rw [hh] at hri8 hb8 ⊢
                    have HRX : Hid (RX h wc.heap.size (e + 1) (X ++ [10]) w8 w8 s0 0 [] [] [] []) := ⟨hri8, rows_nil _ _, rfl, Below.refl _ _⟩
                    have HIN : Hid (Calls Tryd.prog 28 #[.pointer (some ⟨h + 4, 0, none⟩)] w8 (Inl h wc.heap.size (e + 1) (X ++ [10]) w8 w8 a4 0 [] [] [])) := zzInline_any HENV.out HRX.out (by simp) (by simp)
                    have hwch : wc.heap.size < h := by rw [← hh]; exact hD6
                    have HS8 : Hid (∀ k, k < q → ∃ a, p2 = some a ∧ (a.add k).block < h ∧ w8.cell? (a.add k) = some (.string (S.getD k default))) := fun k hk => by
                      obtain ⟨a, e', hc'⟩ := HS2.out.c k (by rw [HL.out]; exact hk)
                      have hb := World.block_lt_of_cell? _ _ hc'
                      have h1 := (HB_w6.cell hb).trans hc'
                      have h2 : w8.cell? (a.add k) = w6.cell? (a.add k) := hb8.cell (show (a.add k).block < h from Nat.lt_trans hb hwch)
                      exact ⟨a, e', Nat.lt_trans hb hwch, h2.trans h1⟩
                    have hW0h : W0.heap.size ≤ h := Nat.le_of_lt (Nat.lt_of_le_of_lt hW0 hwch)
                    have HBW := (show Hid _ from HBX)
                    clear hri8 hb8 hown_w6 hgrow_w6 hb_w6 HB_w6 HBX HNB HOW HB5 HB_wr HB2 HDAT HENV HRX HS2 HG hh hD6 hwch hW0
                    refine HIN.out.mono ?_
                    rintro e10 w10 ⟨ev, rfl, hb10, hst⟩
                    clear HIN
                    have HBZ : Hid (Below W0.heap.size W0 w10) := HBW.out.trans (hb10.mono hW0h)
                    by_cases hbo : X.length ≤ 65536
                    · have hRL : rl ((X ++ [10]).drop 0) = (X.length, 0) := by rw [List.drop_zero, rl_lf X (fun x hx => by have := HXM.out x hx; omega), if_pos hbo]
                      have hBO : body ((X ++ [10]).drop 0) = X := by
                        unfold body
                        rw [hRL]
                        simp only [List.drop_zero, List.take_left]
                        rw [cr_no X (fun x hx => by have := HXM.out x hx; omega), Nat.sub_zero, List.take_left]
                      have hSPL : split X [] [] = (true, (Sb S).flatten, Sb S) := by rw [HXQ.out]; exact split_ql _ (Sb_by S)
                      rcases hst with ⟨_, hev, s', vs', L', hx⟩ | ⟨h1, _⟩ | ⟨h1, _⟩
                      · rw [hBO, hSPL] at hev hx
                        have hevn : ev = .nilIface := by
                          rcases hev with ⟨_, h⟩ | ⟨h, _⟩
                          · exact h
                          · cases h
                        subst hevn
                        obtain ⟨pg, cg, hag⟩ := own_form hx.rows.og
                        have hvl : vs'.length = q := by rw [hx.rows.len, Sb_len, HL.out]
                        have HAG : Hid (Calls Tryd.prog 34 #[.pointer (some ⟨h + 4, 0, none⟩)] w10 fun e w' => e = .returned (.slice pg q cg) ∧ w' = w10) := by
                          have := zzArgs_is hx.ri.rs
                          rw [hag, hvl] at this
                          exact this
                        have HGOT : Hid (∀ k, k < q → ∃ g ao, pg = some ⟨g, 0, none⟩ ∧ w10.cell? ⟨g, k, none⟩ = some (.slice ao (S.getD k default).size (S.getD k default).size) ∧ ∀ m, m < (S.getD k default).size → ∃ g' o', ao = some ⟨g', o', none⟩ ∧ w10.cell? ⟨g', o' + m, none⟩ = some (.int .u8 (sa (S.getD k default) m))) := got_all hx.rows hag (by rw [HL.out])
                        have HC8 : Hid (∀ k, k < q → ∃ a, p2 = some a ∧ w10.cell? (a.add k) = some (.string (S.getD k default))) := fun k hk => by
                          obtain ⟨a, e', hb, hc'⟩ := HS8.out k hk
                          exact ⟨a, e', (hb10.cell hb).trans hc'⟩
                        clear hx hev hb10 hvl hag hRL hBO hSPL HS8
                        go_wp2_with (go_at_call 34; refine HAG.out.mono ?_; rintro e9 w9 ⟨rfl, h9⟩; rw [h9]; clear h9 w9)
                        go_loopg [19] (q + 1) (fun g v19 w11 => ∃ k : Nat, v19 = .int .i64 (k : Int) ∧ k ≤ q ∧ q < g + k ∧ Hid (∃ d, w11 = w10.drewN d))
                        case atStart => exact ⟨0, rfl, by omega, by omega, 0, rfl⟩
                        case round =>
                          obtain ⟨k, rfl, hk, hgk, HWD⟩ := hrel
                          rcases Nat.lt_or_ge k q with hlt2 | hge2
                          · obtain ⟨g, ao, rfl, hc1, hcs⟩ := HGOT.out k hlt2
                            obtain ⟨a, rfl, hc2⟩ := HC8.out k hlt2
                            have hc1' : wr.cell? ⟨g, k, none⟩ = some (.slice ao (S.getD k default).size (S.getD k default).size) := by obtain ⟨d, e⟩ := HWD.out; rw [e]; exact hc1
                            have hc2' : wr.cell? (a.add k) = some (.string (S.getD k default)) := by obtain ⟨d, e⟩ := HWD.out; rw [e]; exact hc2
                            have hsz := HSZ.out k hlt2
                            have HEQB : Hid (∀ d', Calls Tryd.prog 35 #[.slice ao (S.getD k default).size (S.getD k default).size, .string (S.getD k default)] (wr.drewN d') fun e w' => e = .returned (.bool true) ∧ ∃ d, w' = w10.drewN d) := fun d' => by
                              obtain ⟨d, e⟩ := HWD.out
                              refine (zzEqBS_is ao _ (S.getD k default) _ (by omega) rfl (fun m hm => by rw [e]; exact hcs m hm)).mono ?_
                              rintro e' w' ⟨h1, d2, rfl⟩
                              exact ⟨h1, d + d' + d2, by rw [e]; simp [World.drewN, Nat.add_assoc]⟩
                            have HK : Hid (∀ w, (∃ d, w = w10.drewN d) → w.cell? ⟨g, k, none⟩ = some (.slice ao (S.getD k default).size (S.getD k default).size) ∧ w.cell? (a.add k) = some (.string (S.getD k default))) := fun w hw => by
                              obtain ⟨d, rfl⟩ := hw
                              exact ⟨hc1, hc2⟩
                            clear hc1 hc2 hcs
                            generalize S.getD k default = sk at *
                            go_wp2_with fail
                            go_region_held3 (fun w' => w'.cell? ⟨g, k, none⟩ = some (.slice ao sk.size sk.size) ∧ w'.cell? (a.add k) = some (.string sk)) (first | go_keep | exact q0) ((go_at_call 35; refine (HEQB.out 1).mono ?_; rintro e9 w9 ⟨rfl, hw9⟩; have HW9 := (show Hid _ from hw9); have q0 := HK.out w9 hw9; clear hw9))
                            all_goals
                              go_wp2
                              go_roundg (gk - 1)
                              case rel => exact ⟨k + 1, by go_num, by omega, by omega, HW9.out⟩
                              case measure => omega
                          · go_wp2
                            go_ret
                            exact ⟨rfl, by obtain ⟨d, e⟩ := HWD.out; rw [e]; exact below_drewN HBZ.out _⟩
                      · rw [hRL] at h1; cases h1
                      · rw [hRL] at h1; cases h1
                    · have hRL : rl ((X ++ [10]).drop 0) = (X.length, 1) := by rw [List.drop_zero, rl_lf X (fun x hx => by have := HXM.out x hx; omega), if_neg hbo]
                      rcases hst with ⟨h1, _⟩ | ⟨_, p', rfl⟩ | ⟨h1, _⟩
                      · rw [hRL] at h1; cases h1
                      · clear hRL hb10
                        go_wp2
                        go_ret
                        exact ⟨rfl, HBZ.out⟩
                      · rw [hRL] at h1; cases h1
    · go_wp2
      go_ret
      exact ⟨rfl, Below.refl _ _⟩
end Go.Proofs.Qxb6605687aDoor
