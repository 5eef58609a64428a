/- The law on plain words: the walk. -/
import Derived.Test.Qxb6605687aDoorP9b
import Derived.Test.Qxb6605687aDoorB8
namespace Go.Proofs.Qxb6605687aDoor
open Go.RowKit
set_option maxHeartbeats 8000000
set_option maxRecDepth 100000
set_option linter.unusedSimpArgs false
set_option linter.unusedVariables false

variable {a1 a3 a4 : Addr}

theorem law9 (p : Option Addr) (cp : Nat) (S : List ByteArray) (b1 b2 : Bool) (W : World) (H : SL W p S) (hn : S.length ≤ maxLen) (hnil : p = none → S.length = 0 ∧ cp = 0) (G : Gl W.heap.size W a1 a3 a4) :
    Calls Tryd.prog 9 #[.slice p S.length cp, .bool b1, .bool b2] W fun e w' => e = .returned (.bool true) ∧ Below W.heap.size W w' := by
  have HS : Hid (SL W p S) := H
  have HG : Hid (Gl W.heap.size W a1 a3 a4) := G
  have hmx : S.length ≤ 9223372036854775807 := by unfold maxLen at hn; omega
  have HGT : Hid (Calls Tryd.prog 36 #[.slice p S.length cp, .bool b1, .bool b2] W fun e w' => (∃ b, e = .returned (.bool b)) ∧ w' = W) := gate36 p cp S b1 b2 W H hn
  have HNIL : Hid (p = none → S.length = 0 ∧ cp = 0) := hnil
  clear H G hn hnil
  obtain ⟨i0, hi0, hz0, hz1, hz2⟩ := info_parts info5d
  generalize hL : S.length = n at *
  have HL : Hid (S.length = n) := hL
  clear hL
  go_enter Tryd.func9, Tryd.ntmps9
  go_wp2_with fail
  refine HGT.out.mono ?_
  rintro e w1 ⟨⟨b, rfl⟩, rfl⟩
  clear HGT
  cases b with
  | false =>
    go_wp2
    go_ret
    exact ⟨rfl, Below.refl _ _⟩
  | true =>
    by_cases hn1 : n ≤ 65536
    · go_wp2
      go_loopg [7, 8] (n + 1) (fun g v7 v8 wr => ∃ t i : Nat, v7 = .int .i64 (t : Int) ∧ v8 = .int .i64 (i : Int) ∧ Hid (t = 16 * n + sumS (S.take i)) ∧ t ≤ 1048576 ∧ i ≤ n ∧ n < g + i ∧ Hid (∀ k, k < i → (S.getD k default).size ≤ 1048576) ∧ wr = w1)
      case atStart => exact ⟨16 * n, 0, by go_num, rfl, rfl, by omega, by omega, by omega, fun k hk => by omega, rfl⟩
      case round =>
        obtain ⟨t, i, rfl, rfl, HTT, htt, hi, hg, HSZ, rfl⟩ := hrel
        rcases Nat.lt_or_ge i n with hlt | hge
        · obtain ⟨a, hpa, hc⟩ := HS.out.c i (by rw [HL.out]; exact hlt)
          subst hpa
          have hsz := HS.out.size _ _ _ i (by rw [HL.out]; exact hlt)
          have HTT2 : Hid (t + (S.getD i default).size = 16 * n + sumS (S.take (i + 1))) := by
            show _ = _
            rw [sumS_take S i (by rw [HL.out]; exact hlt), HTT.out]
            omega
          have HPN : Hid ((S.getD i default).size ≤ 1048576 → ∀ k, k < i + 1 → (S.getD k default).size ≤ 1048576) := fun h1 k hk => by
            by_cases e : k = i
            · subst e; exact h1
            · exact HSZ.out k (by omega)
          clear HSZ
          generalize S.getD i default = si at *
          have hsz' : si.size ≤ 9223372036854775807 := by unfold maxLen at hsz; omega
          clear hsz
          by_cases h1 : si.size ≤ 1048576
          · have HPN2 := (show Hid (∀ k, k < i + 1 → (S.getD k default).size ≤ 1048576) from HPN.out h1)
            clear HPN
            by_cases h2 : t + si.size ≤ 1048576
            · go_wp2
              go_roundg (gk - 1)
              case rel => exact ⟨t + si.size, i + 1, by go_num, by go_num, HTT2.out, h2, by omega, by omega, HPN2.out, rfl⟩
              case measure => omega
            · go_wp2
              go_ret
              exact ⟨rfl, Below.refl _ _⟩
          · go_wp2
            go_ret
            exact ⟨rfl, Below.refl _ _⟩
        · obtain rfl : i = n := by omega
          clear hge hg
          go_wp2
          go_loopg [9] (i + 1) (fun g v9 w2 => ∃ j : Nat, v9 = .int .i64 (j : Int) ∧ j ≤ i ∧ i < g + j ∧ Hid (∀ k, k < j → Pw (sb (S.getD k default))) ∧ w2 = wr)
          case atStart => exact ⟨0, rfl, by omega, by omega, fun k hk => by omega, rfl⟩
          case round =>
            obtain ⟨j, rfl, hj, hgj, HPW, rfl⟩ := hrel
            rcases Nat.lt_or_ge j i with hlt | hge2
            · obtain ⟨g1, hg1⟩ : ∃ g1, gk = g1 + 1 := ⟨gk - 1, by omega⟩
              subst hg1
              obtain ⟨a, hpa, hc⟩ := HS.out.c j (by rw [HL.out]; exact hlt)
              subst hpa
              have hsz := HSZ.out j hlt
              have HPN : Hid (Pw (sb (S.getD j default)) → ∀ k, k < j + 1 → Pw (sb (S.getD k default))) := fun h1 k hk => by
                by_cases e : k = j
                · subst e; exact h1
                · exact HPW.out k (by omega)
              clear HPW
              generalize S.getD j default = sj at *
              rcases Nat.eq_zero_or_pos sj.size with hz | hz
              · have hd0 : sj.size < 1 := by omega
                clear hz
                go_wp2
                all_goals
                  go_ret
                  exact ⟨rfl, Below.refl _ _⟩
              · have hzz : ((sj.size : Int) == 0) = false := beq_eq_false_iff_ne.2 (by omega)
                go_wp2
                go_loopg [10] (sj.size + 1) (fun g v10 w3 => ∃ k : Nat, v10 = .int .i64 (k : Int) ∧ k ≤ sj.size ∧ sj.size < g + k ∧ Hid (∀ m, m < k → nPl (sa sj m) = false) ∧ w3 = wr)
                case atStart => exact ⟨0, rfl, by omega, by omega, fun m hm => by omega, rfl⟩
                case round =>
                  obtain ⟨k, rfl, hk, hgk, HNP, rfl⟩ := hrel
                  rcases Nat.lt_or_ge k sj.size with hlt2 | hge3
                  · have hd : decide ((k : Int) < sj.size) = true := by simp; omega
                    have hbk := sb_get sj k hlt2
                    have HNX : Hid (nPl (sa sj k) = false → ∀ m, m < k + 1 → nPl (sa sj m) = false) := fun h1 m hm => by
                      by_cases e : m = k
                      · subst e; exact h1
                      · exact HNP.out m (by omega)
                    clear HNP
                    generalize sa sj k = ck at *
                    cases hv : nPl ck with
                    | true =>
                      go_wp2_with (go_at_call 37; refine (notPlain_is ck true _ hv).mono ?_; rintro e9 w9 ⟨rfl, h9⟩; rw [h9]; clear h9 w9)
                      go_ret
                      exact ⟨rfl, Below.refl _ _⟩
                    | false =>
                      have HNY := (show Hid (∀ m, m < k + 1 → nPl (sa sj m) = false) from HNX.out hv)
                      clear HNX
                      go_wp2_with (go_at_call 37; refine (notPlain_is ck false _ hv).mono ?_; rintro e9 w9 ⟨rfl, h9⟩; rw [h9]; clear h9 w9)
                      go_roundg (gk - 1)
                      case rel => exact ⟨k + 1, by go_num, by omega, by omega, HNY.out, rfl⟩
                      case measure => omega
                  · have HPN2 := (show Hid (∀ k, k < j + 1 → Pw (sb (S.getD k default))) from HPN.out (Pw_of sj hz (fun m hm => HNP.out m (by omega))))
                    have hd : decide ((k : Int) < sj.size) = false := by simp; omega
                    go_wp2
                    go_roundg g1
                    case rel => exact ⟨j + 1, by go_num, by omega, by omega, HPN2.out, rfl⟩
                    case measure => omega
            · obtain rfl : j = i := by omega
              obtain ⟨b0, hb0⟩ : ∃ b0, p.isSome = b0 := ⟨_, rfl⟩
              have hq : ∀ W, (binOp .neq 51 (.slice p j cp) (.slice none 0 0)).run Tryd.prog W = .ok (.bool b0) W := by
                intro W
                rw [← hb0]
                cases p with
                | none => 
                  obtain ⟨h1, h2⟩ := HNIL.out rfl
                  subst h1 h2
                  exact Go.run_neq_slice_nil W 51 9 none 0 0 Tryd.underlying51
                | some a => exact neq51 W a j cp
              have HB0 : Hid (p.isSome = b0) := hb0
              clear hb0
              go_upto_if 80 with fail
              clear hq
              go_cut [0] (fun v0 w2 => ∃ p2 cp2, v0 = .slice p2 j cp2 ∧ Hid (SL w2 p2 S) ∧ Hid (Below wr.heap.size wr w2))
              case first =>
                rcases hp : p with _ | a
                · have hb1 : b0 = false := by rw [← HB0.out, hp]; rfl
                  subst hb1
                  subst hp
                  go_wp2
                  go_meet
                  case rel => exact ⟨none, cp, rfl, HS.out, Below.refl _ _⟩
                · have hb1 : b0 = true := by rw [← HB0.out, hp]; rfl
                  subst hb1
                  subst hp
                  have hmk := run_make_row' (P := Tryd.prog) 51 9 (.string ⟨#[]⟩) 16 Tryd.underlying51 info9 rfl .i64 .i64 j (by omega) (by omega)
                  have HSR : Hid (∀ k v, (S.map Value.string)[k]? = some v → (wr.alloc (.cells (madeCells #[.string ⟨#[]⟩] j) 9)).cell? (a.add k) = some v) := fun k v hk => by
                    obtain ⟨hk1, rfl⟩ := List.getElem?_eq_some_iff.1 hk
                    rw [List.length_map] at hk1
                    obtain ⟨a', e', hc⟩ := HS.out.c k hk1
                    cases e'
                    have hlt := World.block_lt_of_cell? _ _ hc
                    rw [World.cell?_alloc_lt _ _ _ hlt, hc]
                    simp [hk1]
                  have HMZ : Hid ((madeCells #[.string ⟨#[]⟩] j).size = j) := size_madeCells _ _
                  have HSL : Hid ((S.map Value.string).length = j) := (List.length_map _).trans HL.out
                  go_wp2_with (refine wpList_copy_at (by rfl) _ _ 51 51 (by rfl) 9 Tryd.underlying51 (by kernel_rfl) wr.heap.size 0 j j a j cp (by rfl) (by rfl) _ 9 (heap_alloc_new wr _) (S.map Value.string) j (Nat.min_self j) HSL.out HSR.out (by rw [HSL.out, HMZ.out]; omega) (strs_one S) _ rfl ?_)
                  go_meet
                  case rel =>
                    refine ⟨some ⟨wr.heap.size, 0, none⟩, j, rfl, ?_, ?_⟩
                    · have := SL.copied (w := wr) (S := S) (M := madeCells #[.string ⟨#[]⟩] j) (HMZ.out.trans HL.out.symm) HS.out.mx
                      show SL _ _ S
                      simpa using this
                    · exact below_setRow ((Below.refl _ wr).alloc (Nat.le_refl _) _) _ _ (Nat.le_refl _)
              case rest =>
                obtain ⟨p2, cp2, rfl, HS2, HB2⟩ := hcut
                obtain ⟨W0, hW0⟩ : ∃ W0, W0 = wr := ⟨_, rfl⟩
                subst hW0
                obtain ⟨W2, hW2⟩ : ∃ W2, W2 = wc := ⟨_, rfl⟩
                subst hW2
                have HTE : Hid (t = 16 * j + sumS S) := by
                  have := HTT.out
                  rw [List.take_of_length_le (by rw [HL.out]; exact Nat.le_refl _)] at this
                  exact this
                have HAL : Hid (∀ i, i ≤ j → (pl [] ((Sb S).take i)).length ≤ 3 * i + sumS S) := fun i hi => by
                  have h1 := pl_take_len S i (by rw [HL.out]; exact hi)
                  have h2 := sumS_le S i (by rw [HL.out]; exact hi)
                  omega
                clear HTT HS HNIL HB0
                go_wp2_with (first | (at_make; refine wpList_make_own _ rfl _ _ 24 rfl W2.heap.size 5 i0 (.int .u8 0) 1 Tryd.underlying24 hi0 hz0 hz1 _ _ _ (t + 16) rfl rfl rfl (by rw [hz2]; omega) (by unfold maxLen; omega) (Nat.le_refl _) ?_; intro w4 hown4 hgrow4) | (at_builtin; refine wpList_append_fits _ (by rfl) _ _ 24 (by rfl) W2.heap.size 5 i0 1 Tryd.underlying24 hi0 hz1 W2.heap.size 0 (t + 16) (u8s []) (by rfl) (World.ownsRow.alloc hown4 _) ⟨w4.heap.size, 0, none⟩ 2 2 [.int .u8 32, .int .u8 32] (by rfl) (by rfl) (World.news_of_block (cs := #[.int .u8 32, .int .u8 32]) (t := 5) (fr := (0, 0)) (heap_alloc_new w4 _)) (by simp [Value.oneCell']) (by omega) ?_; intro w5 hown5 hgrow5))
                have HOW0 : Hid (w5.ownsRow W2.heap.size 5 1 (.slice (some ⟨W2.heap.size, 0, none⟩) 2 (t + 16)) 2 (u8s [32, 32])) := hown5
                have HB4 : Below W2.heap.size W2 w4 := (Below.refl _ W2).grown hgrow4 (Nat.le_refl _) (fun k h => by cases h)
                have HB5 : Hid (Below W2.heap.size W2 w5) := (HB4.alloc HB4.size (.cells #[.int .u8 32, .int .u8 32] 5)).grown hgrow5 (Below.alloc HB4 HB4.size (.cells #[.int .u8 32, .int .u8 32] 5)).size (fun k hk => by cases hk; exact Nat.le_refl _)
                clear hown4 hgrow4 hown5 hgrow5 HB4
                go_loopg [12, 13] (j + 1) (fun g v12 v13 w6 => ∃ (q : Nat) (X : List Int), v12 = .slice (some ⟨W2.heap.size, 0, none⟩) X.length (t + 16) ∧ v13 = .int .i64 (q : Int) ∧ q ≤ j ∧ j < g + q ∧ Hid (X = [32, 32] ++ pl [] ((Sb S).take q)) ∧ Hid (w6.ownsRow W2.heap.size 5 1 (.slice (some ⟨W2.heap.size, 0, none⟩) X.length (t + 16)) X.length (u8s X)) ∧ Hid (Below W2.heap.size W2 w6))
                case atStart => exact ⟨0, [32, 32], rfl, rfl, by omega, by omega, by show _ = _; simp [pl], HOW0.out, HB5.out⟩
                case round =>
                  clear HOW0 HB5
                  obtain ⟨q, X, rfl, rfl, hq, hgq, HX, HOW, HB6⟩ := hrel
                  obtain ⟨g1, hg1⟩ : ∃ g1, gk = g1 + 1 := ⟨gk - 1, by omega⟩
                  subst hg1
                  have HB_wr := HB6.out
                  rcases Nat.lt_or_ge q j with hlt | hge
                  · obtain ⟨a, hpa, hc0⟩ := HS2.out.c q (by rw [HL.out]; exact hlt)
                    subst hpa
                    have hblk := World.block_lt_of_cell? _ _ hc0
                    have hsz := HSZ.out q hlt
                    have HFIT : Hid (2 + (pl [] ((Sb S).take (q + 1))).length ≤ t + 2) := by
                      have h1 := HAL.out (q + 1) (by omega)
                      have h2 := HTE.out
                      show _ ≤ _
                      omega
                    have HQ0 : Hid (q = 0 → [32, 32] ++ pl [] ((Sb S).take (q + 1)) = X ++ sb (S.getD q default)) := fun h => by
                      subst h
                      rw [HX.out, pl_take0 S (by rw [HL.out]; exact hlt)]
                      simp
                    have HQS : Hid (0 < q → [32, 32] ++ pl [] ((Sb S).take (q + 1)) = X ++ [32, 9, 32] ++ sb (S.getD q default)) := fun h => by
                      rw [HX.out, pl_takeS S q (by rw [HL.out]; exact hlt) h]
                      simp
                    clear HX
                    have HC0 : Hid (W2.cell? (a.add q) = some (.string (S.getD q default))) := hc0
                    clear hc0
                    generalize S.getD q default = sq at *
                    rcases Nat.eq_zero_or_pos q with hq0 | hq0
                    · have HQ1 := (show Hid _ from HQ0.out hq0)
                      clear HQ0 HQS
                      have hfx : X.length + sq.size ≤ t + 2 := by
                        have h1 := HFIT.out
                        have h2 := congrArg List.length HQ1.out
                        simp only [List.length_append, sb_len, List.length_cons, List.length_nil] at h2
                        omega
                      have hd0 : q < 1 := by omega
                      clear hq0
                      have hc_wr := (HB_wr.cell hblk).trans HC0.out
                      go_wp2_with (at_builtin; refine wpList_append_str _ (by rfl) _ _ 24 9 (by rfl) W2.heap.size 5 i0 Tryd.underlying24 Tryd.underlying9 hi0 hz1 W2.heap.size X.length (t + 16) (u8s X) (by rfl) HOW.out sq (by rfl) (by omega) ?_; intro w7 hown7 hgrow7)
                      go_roundg g1
                      case rel => exact ⟨q + 1, X ++ sb sq, by rw [List.length_append, sb_len], by go_num, by omega, by omega, HQ1.out.symm, by rw [List.length_append, sb_len, u8s_append, ← strCells_sb]; exact hown7, HB_wr.grown hgrow7 HB_wr.size (fun k hk => by cases hk; exact Nat.le_refl _)⟩
                      case measure => omega
                    · have HQ1 := (show Hid _ from HQS.out hq0)
                      clear HQ0 HQS
                      have hfx : X.length + 3 + sq.size ≤ t + 2 := by
                        have h1 := HFIT.out
                        have h2 := congrArg List.length HQ1.out
                        simp only [List.length_append, sb_len, List.length_cons, List.length_nil] at h2
                        omega
                      go_wp2_with (first | (at_builtin; refine wpList_append_fits _ (by rfl) _ _ 24 (by rfl) W2.heap.size 5 i0 1 Tryd.underlying24 hi0 hz1 W2.heap.size X.length (t + 16) (u8s X) (by rfl) (HOW.out.alloc _) ⟨wr.heap.size, 0, none⟩ 3 3 [.int .u8 32, .int .u8 9, .int .u8 32] (by rfl) (by rfl) (World.news_of_block (cs := #[.int .u8 32, .int .u8 9, .int .u8 32]) (t := 5) (fr := (0, 0)) (heap_alloc_new wr _)) (by simp [Value.oneCell']) (by omega) ?_; intro w6 hown6 hgrow6; have HB_w6 := (HB_wr.alloc HB_wr.size (.cells #[.int .u8 32, .int .u8 9, .int .u8 32] 5)).grown hgrow6 (Below.alloc HB_wr HB_wr.size (.cells #[.int .u8 32, .int .u8 9, .int .u8 32] 5)).size (fun k hk => by cases hk; exact Nat.le_refl _); have hc_w6 := (HB_w6.cell hblk).trans HC0.out) | (at_builtin; refine wpList_append_str _ (by rfl) _ _ 24 9 (by rfl) W2.heap.size 5 i0 Tryd.underlying24 Tryd.underlying9 hi0 hz1 W2.heap.size (X.length + 3) (t + 16) (u8s X ++ [.int .u8 32, .int .u8 9, .int .u8 32]) (by rfl) hown6 sq (by rfl) (by omega) ?_; intro w7 hown7 hgrow7))
                      go_roundg g1
                      case rel => exact ⟨q + 1, X ++ [32, 9, 32] ++ sb sq, by simp only [List.length_append, sb_len, List.length_cons, List.length_nil], by go_num, by omega, by omega, HQ1.out.symm, by rw [List.length_append, List.length_append, sb_len, u8s_append, u8s_append, ← strCells_sb]; exact hown7, HB_w6.grown hgrow7 HB_w6.size (fun k hk => by cases hk; exact Nat.le_refl _)⟩
                      case measure => omega
                  · obtain rfl : q = j := by omega
                    have HXQ : Hid (X = [32, 32] ++ pl [] (Sb S)) := by
                      have := HX.out
                      rw [List.take_of_length_le (by rw [Sb_len, HL.out]; exact Nat.le_refl _)] at this
                      exact this
                    have hXt : X.length ≤ t + 2 := by
                      have h1 := HAL.out q (Nat.le_refl _)
                      have h2 := HTE.out
                      have h3 := congrArg List.length HX.out
                      simp only [List.length_append, List.length_cons, List.length_nil] at h3
                      omega
                    clear HX HAL HTE
                    go_upto_if 111 with fail
                    go_cut [12] (fun v12 w7 => ∃ Z : List Int, v12 = .slice (some ⟨W2.heap.size, 0, none⟩) Z.length (t + 16) ∧ Z.length ≤ t + 8 ∧ Hid (Z = wl b1 b2 S) ∧ Hid (w7.ownsRow W2.heap.size 5 1 (.slice (some ⟨W2.heap.size, 0, none⟩) Z.length (t + 16)) Z.length (u8s Z)) ∧ Hid (Below W2.heap.size W2 w7))
                    case first =>
                      cases b1 with
                      | true =>
                        have HZ : Hid (X ++ [32, 34, 97, 98, 34, 99] = wl true b2 S) := by show _ = _; rw [wl_eq, HXQ.out]; rfl
                        go_wp2_with (at_builtin; refine wpList_append_fits _ (by rfl) _ _ 24 (by rfl) W2.heap.size 5 i0 1 Tryd.underlying24 hi0 hz1 W2.heap.size (X.length) (t + 16) (u8s X) (by rfl) ((HOW.out).alloc _) ⟨wr.heap.size, 0, none⟩ 6 6 [.int .u8 32, .int .u8 34, .int .u8 97, .int .u8 98, .int .u8 34, .int .u8 99] (by rfl) (by rfl) (World.news_of_block (cs := #[.int .u8 32, .int .u8 34, .int .u8 97, .int .u8 98, .int .u8 34, .int .u8 99]) (t := 5) (fr := (0, 0)) (heap_alloc_new wr _)) (by simp [Value.oneCell']) (by omega) ?_; intro w9 hown_w9 hgrow_w9; have HB_w9 := (HB_wr.alloc HB_wr.size (.cells #[.int .u8 32, .int .u8 34, .int .u8 97, .int .u8 98, .int .u8 34, .int .u8 99] 5)).grown hgrow_w9 (Below.alloc HB_wr HB_wr.size (.cells #[.int .u8 32, .int .u8 34, .int .u8 97, .int .u8 98, .int .u8 34, .int .u8 99] 5)).size (fun k hk => by cases hk; exact Nat.le_refl _))
                        go_meet
                        case rel => exact ⟨X ++ [32, 34, 97, 98, 34, 99], by simp, by simp; omega, HZ.out, by rw [List.length_append, u8s_append]; exact hown_w9, HB_w9⟩
                      | false =>
                        cases b2 with
                        | true =>
                          have HZ : Hid (X ++ [32, 39, 97, 98] = wl false true S) := by show _ = _; rw [wl_eq, HXQ.out]; rfl
                          go_wp2_with (at_builtin; refine wpList_append_fits _ (by rfl) _ _ 24 (by rfl) W2.heap.size 5 i0 1 Tryd.underlying24 hi0 hz1 W2.heap.size (X.length) (t + 16) (u8s X) (by rfl) ((HOW.out).alloc _) ⟨wr.heap.size, 0, none⟩ 4 4 [.int .u8 32, .int .u8 39, .int .u8 97, .int .u8 98] (by rfl) (by rfl) (World.news_of_block (cs := #[.int .u8 32, .int .u8 39, .int .u8 97, .int .u8 98]) (t := 5) (fr := (0, 0)) (heap_alloc_new wr _)) (by simp [Value.oneCell']) (by omega) ?_; intro w9 hown_w9 hgrow_w9; have HB_w9 := (HB_wr.alloc HB_wr.size (.cells #[.int .u8 32, .int .u8 39, .int .u8 97, .int .u8 98] 5)).grown hgrow_w9 (Below.alloc HB_wr HB_wr.size (.cells #[.int .u8 32, .int .u8 39, .int .u8 97, .int .u8 98] 5)).size (fun k hk => by cases hk; exact Nat.le_refl _))
                          go_meet
                          case rel => exact ⟨X ++ [32, 39, 97, 98], by simp, by simp; omega, HZ.out, by rw [List.length_append, u8s_append]; exact hown_w9, HB_w9⟩
                        | false =>
                          have HZ : Hid (X = wl false false S) := by show _ = _; rw [wl_eq, HXQ.out]; simp [sfx]
                          go_wp2
                          go_meet
                          case rel => exact ⟨X, rfl, by omega, HZ.out, HOW.out, HB_wr⟩
                    case rest =>
                      clear HOW HB6 HB_wr HXQ
                      obtain ⟨Z, rfl, hZt, HZ, HOZ, HBZ⟩ := hcut
                      have HB_wc := HBZ.out
                      have HPS : Hid (∀ s ∈ Sb S, Pw s) := Pw_all S (fun k hk => HPW.out k (by rw [← HL.out]; exact hk))
                      have HBY : Hid (By Z) := by rw [HZ.out]; exact wl_by b1 b2 S
                      have HNL : Hid (∀ x ∈ Z ++ [13], x ≠ 10) := fun x hx => by
                        rcases List.mem_append.1 hx with hx | hx
                        · rw [HZ.out] at hx
                          exact wl_mem b1 b2 S HPS.out x hx
                        · simp at hx
                          omega
                      have HNB : Hid (∀ w, Calls Tryd.prog 26 #[.slice (some ⟨W2.heap.size, 0, none⟩) (Z.length + 1 + 1) (t + 16)] w fun e' w' => e' = .returned (.pointer (some ⟨w.heap.size + 4, 0, none⟩)) ∧ RI w.heap.size W2.heap.size (t + 16) (Z ++ [13] ++ [10]) w' s0 0 ∧ Below w.heap.size w w') := fun w => by
                        have := newBytes_any W2.heap.size (t + 16) (Z ++ [13] ++ [10]) w
                        rw [List.length_append, List.length_append] at this
                        exact this
                      go_wp2_with (first | (at_builtin; refine wpList_append_fits _ (by rfl) _ _ 24 (by rfl) W2.heap.size 5 i0 1 Tryd.underlying24 hi0 hz1 W2.heap.size (Z.length) (t + 16) (u8s Z) (by rfl) ((HOZ.out).alloc _) ⟨wc.heap.size, 0, none⟩ 1 1 [.int .u8 13] (by rfl) (by rfl) (World.news_of_block (cs := #[.int .u8 13]) (t := 5) (fr := (0, 0)) (heap_alloc_new wc _)) (by simp [Value.oneCell']) (by omega) ?_; intro w5 hown_w5 hgrow_w5; have HB_w5 := (HB_wc.alloc HB_wc.size (.cells #[.int .u8 13] 5)).grown hgrow_w5 (Below.alloc HB_wc HB_wc.size (.cells #[.int .u8 13] 5)).size (fun k hk => by cases hk; exact Nat.le_refl _)) | (at_builtin; refine wpList_append_fits _ (by rfl) _ _ 24 (by rfl) W2.heap.size 5 i0 1 Tryd.underlying24 hi0 hz1 W2.heap.size (Z.length + 1) (t + 16) (u8s Z ++ [.int .u8 13]) (by rfl) ((hown_w5).alloc _) ⟨w5.heap.size, 0, none⟩ 1 1 [.int .u8 10] (by rfl) (by rfl) (World.news_of_block (cs := #[.int .u8 10]) (t := 5) (fr := (0, 0)) (heap_alloc_new w5 _)) (by simp [Value.oneCell']) (by omega) ?_; intro w6 hown_w6 hgrow_w6; have HB_w6 := (HB_w5.alloc HB_w5.size (.cells #[.int .u8 10] 5)).grown hgrow_w6 (Below.alloc HB_w5 HB_w5.size (.cells #[.int .u8 10] 5)).size (fun k hk => by cases hk; exact Nat.le_refl _)) | (go_at_call 26; refine (HNB.out _).mono ?_; rintro e8 w8 ⟨rfl, hri8, hb8⟩))
                      have hD6 : W2.heap.size < w6.heap.size := (hown_w6.lt W2.heap.size rfl).2
                      obtain ⟨h, hh⟩ : ∃ h, w6.heap.size = h := ⟨_, rfl⟩
                      have HDAT : Hid (Dat w8 W2.heap.size (Z ++ [13] ++ [10])) := fun k hk => by
                        have h1 : w8.cell? ⟨W2.heap.size, k, none⟩ = w6.cell? ⟨W2.heap.size, k, none⟩ := hb8.cell (show (⟨W2.heap.size, k, none⟩ : Addr).block < w6.heap.size from hD6)
                        rw [h1]
                        have hcs := hown_w6.cells (g := W2.heap.size) rfl k (.int .u8 ((Z ++ [13] ++ [10]).getD k 0)) (by
                          rw [show u8s Z ++ [Value.int .u8 13] ++ [Value.int .u8 10] = u8s (Z ++ [13] ++ [10]) from by rw [u8s_append, u8s_append]; rfl]
                          exact u8s_get _ _ hk)
                        rw [add_mk, Nat.zero_add] at hcs
                        exact hcs
                      have hW0 := HB2.out.size
                      have HBX := (HB2.out.trans (HB_w6.mono hW0)).trans (hb8.mono (Nat.le_of_lt (Nat.lt_of_le_of_lt hW0 hD6)))
                      have HENV : Hid (Env h W2.heap.size (t + 16) (Z ++ [13] ++ [10]) W0.heap.size w8 a1 a3 a4) := ⟨(HBY.out.append (fun x hx => by simp at hx; omega)).append (fun x hx => by simp at hx; omega), HG.out.below HBX (Nat.le_refl _), HDAT.out, by rw [← hh]; exact Nat.le_of_lt (Nat.lt_of_le_of_lt hW0 hD6), by rw [← hh]; exact hD6, by simp; omega, by simp; omega, by unfold maxLen; omega⟩
                      rw [hh] at hri8 hb8 ⊢
                      have HRX : Hid (RX h W2.heap.size (t + 16) (Z ++ [13] ++ [10]) w8 w8 s0 0 [] [] [] []) := ⟨hri8, rows_nil _ _, rfl, Below.refl _ _⟩
                      have HIN : Hid (Calls Tryd.prog 28 #[.pointer (some ⟨h + 4, 0, none⟩)] w8 (Inl h W2.heap.size (t + 16) (Z ++ [13] ++ [10]) w8 w8 a4 0 [] [] [])) := zzInline_any HENV.out HRX.out (by simp) (by simp)
                      have hwch : W2.heap.size < h := by rw [← hh]; exact hD6
                      have HS8 : Hid (∀ k, k < q → ∃ a, p2 = some a ∧ (a.add k).block < h ∧ w8.cell? (a.add k) = some (.string (S.getD k default))) := fun k hk => by
                        obtain ⟨a, e', hc'⟩ := HS2.out.c k (by rw [HL.out]; exact hk)
                        have hb := World.block_lt_of_cell? _ _ hc'
                        have h1 := (HB_w6.cell hb).trans hc'
                        have h2 : w8.cell? (a.add k) = w6.cell? (a.add k) := hb8.cell (show (a.add k).block < h from Nat.lt_trans hb hwch)
                        exact ⟨a, e', Nat.lt_trans hb hwch, h2.trans h1⟩
                      have hW0h : W0.heap.size ≤ h := Nat.le_of_lt (Nat.lt_of_le_of_lt hW0 hwch)
                      have HBW := (show Hid _ from HBX)
                      clear hri8 hb8 hown_w6 hgrow_w6 HB_w6 hown_w5 hgrow_w5 HB_w5 HB_wc HBX HNB HOZ HBZ HB2 HDAT HENV HRX HS2 HG hh hD6 hwch hW0 HBY
                      refine HIN.out.mono ?_
                      rintro e10 w10 ⟨ev, rfl, hb10, hst⟩
                      clear HIN
                      have HBZ : Hid (Below W0.heap.size W0 w10) := HBW.out.trans (hb10.mono hW0h)
                      by_cases hbo : Z.length + 1 ≤ 65536
                      · have hdb : decide ((65536 : Int) < (Z.length : Int) + 1) = false := by simp; omega
                        have hRL : rl ((Z ++ [13] ++ [10]).drop 0) = (Z.length + 1, 0) := by rw [List.drop_zero, rl_lf _ HNL.out, List.length_append, List.length_singleton, if_pos hbo]
                        have hBO : body ((Z ++ [13] ++ [10]).drop 0) = Z := by
                          unfold body
                          rw [hRL]
                          have e1 : (Z ++ [13] ++ [10]).take (Z.length + 1) = Z ++ [13] := by
                            rw [show Z.length + 1 = (Z ++ [13]).length by simp, List.take_left]
                          simp only [List.drop_zero]
                          rw [e1, cr_last, Nat.add_sub_cancel, List.append_assoc, List.take_left]
                        rcases hst with ⟨_, hev, s', vs', L', hx⟩ | ⟨h1, _⟩ | ⟨h1, _⟩
                        · rw [hBO] at hev hx
                          by_cases hbad : b1 = true ∨ b2 = true
                          · have hSPL : (split Z [] []).1 = false := by rw [HZ.out]; exact split_bad b1 b2 hbad _ HPS.out
                            rw [hSPL] at hev
                            obtain ⟨p', rfl⟩ : ∃ p', ev = .iface 100 p' := by
                              rcases hev with ⟨h, _⟩ | ⟨_, h⟩
                              · cases h
                              · exact h
                            clear hx hev hb10 hRL hBO hSPL HS8
                            cases b1 with
                            | true =>
                              go_wp2_with fail
                              go_ret
                              exact ⟨rfl, HBZ.out⟩
                            | false =>
                              cases b2 with
                              | true =>
                                go_wp2
                                go_ret
                                exact ⟨rfl, HBZ.out⟩
                              | false => simp at hbad
                          · have hb1 : b1 = false := by cases b1 with | true => simp at hbad | false => rfl
                            have hb2 : b2 = false := by cases b2 with | true => simp at hbad | false => rfl
                            subst hb1 hb2
                            clear hbad
                            have hSPL : split Z [] [] = (true, (Sb S).flatten, Sb S) := by rw [HZ.out]; exact split_words _ HPS.out
                            rw [hSPL] at hev hx
                            have hevn : ev = .nilIface := by
                              rcases hev with ⟨_, h⟩ | ⟨h, _⟩
                              · exact h
                              · cases h
                            subst hevn
                            obtain ⟨pg, cg, hag⟩ := own_form hx.rows.og
                            have hvl : vs'.length = q := by rw [hx.rows.len, Sb_len, HL.out]
                            have HAG : Hid (Calls Tryd.prog 34 #[.pointer (some ⟨h + 4, 0, none⟩)] w10 fun e w' => e = .returned (.slice pg q cg) ∧ w' = w10) := by
                              have := zzArgs_is hx.ri.rs
                              rw [hag, hvl] at this
                              exact this
                            have HGOT : Hid (∀ k, k < q → ∃ g ao, pg = some ⟨g, 0, none⟩ ∧ w10.cell? ⟨g, k, none⟩ = some (.slice ao (S.getD k default).size (S.getD k default).size) ∧ ∀ m, m < (S.getD k default).size → ∃ g' o', ao = some ⟨g', o', none⟩ ∧ w10.cell? ⟨g', o' + m, none⟩ = some (.int .u8 (sa (S.getD k default) m))) := got_all hx.rows hag (by rw [HL.out])
                            have HC8 : Hid (∀ k, k < q → ∃ a, p2 = some a ∧ w10.cell? (a.add k) = some (.string (S.getD k default))) := fun k hk => by
                              obtain ⟨a, e', hb, hc'⟩ := HS8.out k hk
                              exact ⟨a, e', (hb10.cell hb).trans hc'⟩
                            clear hx hev hb10 hvl hag hRL hBO hSPL HS8
                            go_wp2_with (go_at_call 34; refine HAG.out.mono ?_; rintro e9 w9 ⟨rfl, h9⟩; rw [h9]; clear h9 w9)
                            go_loopg [18] (q + 1) (fun g v18 w11 => ∃ k : Nat, v18 = .int .i64 (k : Int) ∧ k ≤ q ∧ q < g + k ∧ Hid (∃ d, w11 = w10.drewN d))
                            case atStart => exact ⟨0, rfl, by omega, by omega, 0, rfl⟩
                            case round =>
                              obtain ⟨k, rfl, hk, hgk, HWD⟩ := hrel
                              rcases Nat.lt_or_ge k q with hlt2 | hge2
                              · obtain ⟨g, ao, rfl, hc1, hcs⟩ := HGOT.out k hlt2
                                obtain ⟨a, rfl, hc2⟩ := HC8.out k hlt2
                                have hc1' : wr.cell? ⟨g, k, none⟩ = some (.slice ao (S.getD k default).size (S.getD k default).size) := by obtain ⟨d, e⟩ := HWD.out; rw [e]; exact hc1
                                have hc2' : wr.cell? (a.add k) = some (.string (S.getD k default)) := by obtain ⟨d, e⟩ := HWD.out; rw [e]; exact hc2
                                have hsz := HSZ.out k hlt2
                                have HEQB : Hid (∀ d', Calls Tryd.prog 35 #[.slice ao (S.getD k default).size (S.getD k default).size, .string (S.getD k default)] (wr.drewN d') fun e w' => e = .returned (.bool true) ∧ ∃ d, w' = w10.drewN d) := fun d' => by
                                  obtain ⟨d, e⟩ := HWD.out
                                  refine (zzEqBS_is ao _ (S.getD k default) _ (by omega) rfl (fun m hm => by rw [e]; exact hcs m hm)).mono ?_
                                  rintro e' w' ⟨h1, d2, rfl⟩
                                  exact ⟨h1, d + d' + d2, by rw [e]; simp [World.drewN, Nat.add_assoc]⟩
                                have HK : Hid (∀ w, (∃ d, w = w10.drewN d) → w.cell? ⟨g, k, none⟩ = some (.slice ao (S.getD k default).size (S.getD k default).size) ∧ w.cell? (a.add k) = some (.string (S.getD k default))) := fun w hw => by
                                  obtain ⟨d, rfl⟩ := hw
                                  exact ⟨hc1, hc2⟩
                                clear hc1 hc2 hcs
                                generalize S.getD k default = sk at *
                                go_wp2_with fail
                                go_region_held3 (fun w' => w'.cell? ⟨g, k, none⟩ = some (.slice ao sk.size sk.size) ∧ w'.cell? (a.add k) = some (.string sk)) (first | go_keep | exact q0) ((go_at_call 35; refine (HEQB.out 1).mono ?_; rintro e9 w9 ⟨rfl, hw9⟩; have HW9 := (show Hid _ from hw9); have q0 := HK.out w9 hw9; clear hw9))
                                all_goals
                                  go_wp2
                                  go_roundg (gk - 1)
                                  case rel => exact ⟨k + 1, by go_num, by omega, by omega, HW9.out⟩
                                  case measure => omega
                              · go_wp2
                                go_ret
                                exact ⟨rfl, by obtain ⟨d, e⟩ := HWD.out; rw [e]; exact below_drewN HBZ.out _⟩
                        · rw [hRL] at h1; cases h1
                        · rw [hRL] at h1; cases h1
                      · have hdb : decide ((65536 : Int) < (Z.length : Int) + 1) = true := by simp; omega
                        have hRL : rl ((Z ++ [13] ++ [10]).drop 0) = (Z.length + 1, 1) := by rw [List.drop_zero, rl_lf _ HNL.out, List.length_append, List.length_singleton, if_neg hbo]
                        rcases hst with ⟨h1, _⟩ | ⟨_, p', rfl⟩ | ⟨h1, _⟩
                        · rw [hRL] at h1; cases h1
                        · clear hRL hb10
                          go_wp2
                          all_goals
                            go_ret
                            exact ⟨rfl, HBZ.out⟩
                        · rw [hRL] at h1; cases h1
    · go_wp2
      go_ret
      exact ⟨rfl, Below.refl _ _⟩
end Go.Proofs.Qxb6605687aDoor
