/- The law, walked. -/
import Derived.Test.Qxb6605550aW6
namespace Go.Proofs.Qxb6605550a
open Go.RowKit Go.Deep Pl
set_option maxHeartbeats 8000000
set_option linter.unusedSimpArgs false
set_option linter.unusedVariables false

/-- A copy, read in a later world: below G nothing has turned. -/
def Src (w : World) (G : Nat) (a : Option Addr) (xs : List Int) : Prop :=
  (a = none ∧ xs = []) ∨ ∃ g, a = some ⟨g, 0, none⟩ ∧ g < G ∧ ∀ i, i < xs.length → w.cell? ⟨g, i, none⟩ = some (.int .u8 (xs.getD i 0))
theorem Cp.src {w : World} {B : Nat} {a : Option Addr} {xs : List Int} (h : Cp w B a xs) : Src w w.heap.size a xs := by
  rcases h.2 with h2 | ⟨g, rfl, _, hl, hc⟩
  · exact .inl h2
  · exact .inr ⟨g, rfl, hl, hc⟩
theorem Src.later {w w' : World} {B G : Nat} {a : Option Addr} {xs : List Int} (h : Src w B a xs) (hb : Below B w w') (hG : B ≤ G) : Src w' G a xs := by
  rcases h with h2 | ⟨g, rfl, hl, hc⟩
  · exact .inl h2
  · exact .inr ⟨g, rfl, by omega, fun i hi => (hb.cell (by exact hl)).trans (hc i hi)⟩
theorem Src.at_ {w : World} {G : Nat} {a : Option Addr} {xs : List Int} (h : Src w G a xs) {i : Nat} (hi : i < xs.length) : ∃ g, a = some ⟨g, 0, none⟩ ∧ w.cell? ⟨g, i, none⟩ = some (.int .u8 (xs.getD i 0)) := by
  rcases h with ⟨_, rfl⟩ | ⟨g, rfl, hl, hc⟩
  · simp at hi
  · exact ⟨g, rfl, hc i hi⟩
theorem one_cell (w : World) (v : Int) : ∀ (j : Nat) (u : Value), [Value.int .u8 v][j]? = some u → (w.alloc (.cells #[.int .u8 v] 5)).cell? ((⟨w.heap.size, 0, none⟩ : Addr).add j) = some u := by
  intro j u h
  match j, h with
  | 0, h => simp at h; subst h; simp [Addr.add]
theorem one_one (v : Int) : ∀ u ∈ [Value.int .u8 v], u.oneCell' = true := by
  intro u hu
  simp at hu
  subst hu
  rfl
/-- What the building knows at a loop's head. -/
structure Bld (w3 wr : World) (G cap : Nat) (ys : List Int) : Prop where
  raw : wr.ownsRow G 5 1 (.slice (some ⟨G, 0, none⟩) ys.length cap) ys.length (ys.map (Value.int .u8))
  bel : Below G w3 wr
  size : G ≤ wr.heap.size
theorem Bld.add {w3 wr w1 : World} {G cap : Nat} {ys news : List Int} {o : Obj} (h : Bld w3 wr G cap ys) (h1 : w1.ownsRow G 5 1 (.slice (some ⟨G, 0, none⟩) (ys.length + news.length) cap) (ys.length + news.length) (ys.map (Value.int .u8) ++ news.map (Value.int .u8)))
    (hg : (wr.alloc o).grownBy w1 (some G)) : Bld w3 w1 G cap (ys ++ news) :=
  ⟨by simpa using h1, (h.bel.alloc h.size o).grown hg (by simp; have := h.size; omega) (fun k hk => by cases hk; exact Nat.le_refl _), by have := hg.size; have := h.size; simp at *; omega⟩
theorem Bld.grow {w3 wr w1 : World} {G cap : Nat} {ys zs : List Int} (h : Bld w3 wr G cap ys) (h1 : Raw w1 G G cap zs) (hg : wr.grownBy w1 (some G)) : Bld w3 w1 G cap zs :=
  ⟨h1, h.bel.grown hg h.size (fun k hk => by cases hk; exact Nat.le_refl _), by have := hg.size; have := h.size; omega⟩
theorem Bld.src {w3 wr : World} {G cap : Nat} {ys xs : List Int} {a : Option Addr} (h : Bld w3 wr G cap ys) (hs : Src w3 G a xs) : Src wr G a xs := hs.later h.bel (Nat.le_refl _)
theorem take_add (xs : List Int) (i : Nat) (h : i < xs.length) : xs.take (i + 1) = xs.take i ++ [xs.getD i 0] := by
  rw [List.take_add_one]
  simp [h]

theorem getD_mem (xs : List Int) (i : Nat) (h : i < xs.length) : xs.getD i 0 ∈ xs := by
  rw [List.getD_eq_getElem?_getD, List.getElem?_eq_getElem h]
  exact List.getElem_mem h
theorem esc_len {es : List Int} (h : IsEsc es) : es.length = 2 ∨ es.length = 6 := by
  obtain ⟨x, ys, rfl, _, h2, _⟩ := h
  simp only [List.length_cons]
  omega
theorem esc_cell {w : World} {G cap : Nat} {ys es : List Int} (h : Raw w G G cap (ys ++ es)) (he : IsEsc es) : w.cell? ⟨G, ys.length, none⟩ = some (.int .u8 92) := by
  obtain ⟨x, t, rfl, _, h2, _⟩ := he
  rw [World.ownsRow.cellAt h ys.length (by simp)]
  simp
theorem esc_bytes {ys es : List Int} (h : ∀ c ∈ ys, 0 ≤ c ∧ c ≤ 255) (he : IsEsc es) : ∀ c ∈ ys ++ es, 0 ≤ c ∧ c ≤ 255 := by
  obtain ⟨x, t, hx, _, _, h3⟩ := he
  intro c hc
  rcases List.mem_append.1 hc with hc | hc
  · exact h c hc
  · exact h3 c hc
theorem add_bytes {ys : List Int} {v : Int} (h : ∀ c ∈ ys, 0 ≤ c ∧ c ≤ 255) (hv : 0 ≤ v ∧ v ≤ 255) : ∀ c ∈ ys ++ [v], 0 ≤ c ∧ c ≤ 255 := by
  intro c hc
  rcases List.mem_append.1 hc with hc | hc
  · exact h c hc
  · simp at hc
    subst hc
    exact hv

theorem found_of {ys t : List Int} {s : Nat} (hO : Ok ys s) (hy : ∀ c ∈ ys, 0 ≤ c ∧ c ≤ 255) (ht : ∀ c ∈ t, 0 ≤ c ∧ c ≤ 255) : Found (ys ++ [34] ++ t) s ys.length where
  le := hO.le
  at_ := by simp
  bytes := by
    intro c hc
    simp only [List.mem_append, List.mem_singleton] at hc
    rcases hc with (hc | hc) | hc
    · exact hy c hc
    · subst hc
      omega
    · exact ht c hc
  quotes := by
    intro i h1 h2 h3
    rw [List.append_assoc] at h3 ⊢
    rw [List.getElem?_append_left h2] at h3
    rw [bks_prefix _ _ _ _ (Nat.le_of_lt h2)]
    exact hO.quotes i h1 h2 (by rw [List.getD_eq_getElem?_getD, h3]; rfl)
  last := by
    rw [List.append_assoc, bks_prefix _ _ _ _ (Nat.le_refl _)]
    exact hO.last
theorem Bld.cells {w3 wr : World} {G cap : Nat} {ys : List Int} (h : Bld w3 wr G cap ys) : ∀ i, i < ys.length → wr.cell? ⟨G, i, none⟩ = some (.int .u8 (ys.getD i 0)) := by
  intro i hi
  rw [h.raw.cellAt i (by omega)]
  simp [hi]

set_option maxRecDepth 100000 in
theorem law_any (a0 a1 a2 : Option Addr) (c0 c1 c2 : Nat) (x0 x1 x2 : List Int) (w : World) (R0 : Rd w a0 x0) (R1 : Rd w a1 x1) (R2 : Rd w a2 x2) (k0 : a0 = none → c0 = 0) (k1 : a1 = none → c1 = 0) (k2 : a2 = none → c2 = 0)
    (m0 : (x0.length : Int) ≤ 9223372036854775807) (m1 : (x1.length : Int) ≤ 9223372036854775807) (m2 : (x2.length : Int) ≤ 9223372036854775807) :
    Calls Try.prog 4 #[.slice a0 x0.length c0, .slice a1 x1.length c1, .slice a2 x2.length c2] w fun e w' => e = .returned (.bool true) ∧ Below w.heap.size w w' := by
  by_cases hfit : x0.length + x1.length + x2.length ≤ 1048576
  · have H0 := clone_any a0 c0 x0 w R0 (by omega) k0
    have G0 := gate_any a0 a1 a2 x0.length c0 x1.length c1 x2.length c2 w true m0 m1 m2 (decide_eq_true hfit)
    have HR0 : Hid (Rd w a0 x0) := R0
    have HR1 : Hid (Rd w a1 x1) := R1
    have HR2 : Hid (Rd w a2 x2) := R2
    have HK1 : Hid (a1 = none → c1 = 0) := k1
    have HK2 : Hid (a2 = none → c2 = 0) := k2
    have HH0 : Hid (Calls Try.prog 9 #[.slice a0 x0.length c0] w fun e w' => ∃ a', e = .returned (.slice a' x0.length x0.length) ∧ Cp w' w.heap.size a' x0 ∧ Below w.heap.size w w') := H0
    clear R0 R1 R2 H0 k0 k1 k2
    generalize e0 : x0.length = l0 at *
    generalize e1 : x1.length = l1 at *
    generalize e2 : x2.length = l2 at *
    go_enter Try.func4, Try.ntmps4
    go_wp2_with (first | (go_at_call 12; refine G0.mono ?_; clear G0; rintro e9 w9 ⟨rfl, rfl⟩) | (go_at_call 9; refine HH0.out.mono ?_; clear HH0; rintro e9 w1 ⟨p0, rfl, C0, B0⟩))
    have H1 := clone_any a1 c1 x1 w1 (HR1.out.later B0) (by omega) HK1.out
    rw [e1] at H1
    refine H1.mono ?_
    clear H1
    rintro e9 w2 ⟨p1, rfl, C1, B1⟩
    go_wp2_with fail
    have H2 := clone_any a2 c2 x2 w2 ((HR2.out.later B0).later B1) (by omega) HK2.out
    rw [e2] at H2
    refine H2.mono ?_
    clear H2
    rintro e9 w3 ⟨p2, rfl, C2, B2⟩
    have HS0 : Hid (Src w3 w3.heap.size p0 x0) := (C0.src.later B1 (Nat.le_refl _)).later (B2.mono B1.size) (Nat.le_trans B1.size B2.size)
    have HS1 : Hid (Src w3 w3.heap.size p1 x1) := C1.src.later B2 B2.size
    have HS2 : Hid (Src w3 w3.heap.size p2 x2) := C2.src
    have HY0 : Hid (∀ c ∈ x0, 0 ≤ c ∧ c ≤ 255) := C0.1
    have HY1 : Hid (∀ c ∈ x1, 0 ≤ c ∧ c ≤ 255) := C1.1
    have HY2 : Hid (∀ c ∈ x2, 0 ≤ c ∧ c ≤ 255) := C2.1
    have HB : Hid (Below w9.heap.size w9 w3) := (B0.trans (B1.mono B0.size)).trans (B2.mono (Nat.le_trans B0.size B1.size))
    clear HR0 HR1 HR2 HK1 HK2 C0 B0 C1 B1 C2 B2
    obtain ⟨i0, hi, hz0, hz1, hz2⟩ := info_parts Try.info5
    go_wp2_with (at_make; refine wpList_make_own _ rfl _ _ 22 rfl w3.heap.size 5 i0 (.int .u8 0) 1 Try.underlying22 hi hz0 hz1 _ _ _ (l0 + 6 * l1 + 1 + l2) rfl rfl (by omega) ?b2 ?b3 (Nat.le_refl _) ?_)
    case b2 => rw [hz2]; omega
    case b3 => unfold maxLen; omega
    intro w4 hown4 hgrow4
    have HL : Hid (Bld w3 w4 w3.heap.size (l0 + 6 * l1 + 1 + l2) []) := ⟨by simpa using hown4, (Below.refl _ _).grown hgrow4 (Nat.le_refl _) (fun k h => by cases h), hgrow4.size⟩
    clear hown4 hgrow4
    generalize hG : w3.heap.size = G at *
    generalize hcap : l0 + 6 * l1 + 1 + l2 = cap at *
    go_wp2
    go_loopw [7, 8] (fun s7 s8 wr => ∃ i : Nat, i ≤ l0 ∧ s8 = .int .i64 i ∧ s7 = .slice (some ⟨G, 0, none⟩) i cap ∧ Hid (Bld w3 wr G cap (x0.take i))) (fun _ s8 _ => l0 - (intOf s8).toNat)
    case atStart => exact ⟨0, Nat.zero_le _, rfl, rfl, HL⟩
    case round =>
      clear HL
      obtain ⟨i, hil, rfl, rfl, HL⟩ := hrel
      by_cases hlt : i < l0
      · obtain ⟨g0, rfl, hcell⟩ := (HL.out.src HS0.out).at_ (show i < x0.length by omega)
        have hxl : (x0.take i).length = i := by simp; omega
        have hraw := HL.out.raw
        rw [hxl] at hraw
        generalize hv : x0.getD i 0 = v at *
        go_wp2_with (at_builtin; refine wpList_append_fits _ rfl (.tmp 65) (.tmp 70) 22 rfl G 5 i0 1 Try.underlying22 hi hz1 G i cap _ rfl (hraw.alloc _) ⟨wr.heap.size, 0, none⟩ 1 1 [.int .u8 v] rfl rfl (one_cell _ _) (one_one _) (by omega) ?_; intro w5 hown5 hgrow5)
        refine ⟨⟨i + 1, by omega, by go_num, rfl, ?_⟩, by simp [intOf]; omega⟩
        rw [take_add _ _ (by omega), hv]
        exact HL.out.add (news := [v]) (by rw [hxl]; exact hown5) hgrow5
      · obtain rfl : l0 = i := by omega
        rw [← e0, List.take_length] at HL
        go_wp2
        clear hlt hil
        go_loopw [7, 10] (fun s7 s10 wr => ∃ (j : Nat) (ys : List Int), j ≤ l1 ∧ s10 = .int .i64 j ∧ s7 = .slice (some ⟨G, 0, none⟩) ys.length cap ∧ Hid (Bld w3 wr G cap ys) ∧ Hid (Ok ys l0) ∧ ys.length ≤ l0 + 6 * j ∧ Hid (∀ c ∈ ys, 0 ≤ c ∧ c ≤ 255)) (fun _ s10 _ => l1 - (intOf s10).toNat)
        case atStart => exact ⟨0, x0, Nat.zero_le _, rfl, by rw [e0], HL, (by rw [← e0]; exact Ok.start x0), by omega, HY0⟩
        case round =>
          clear HL
          obtain ⟨j, ys, hjl, rfl, rfl, HL, HO, hyl, HY⟩ := hrel
          by_cases hlt : j < l1
          · obtain ⟨g1, rfl, hcell⟩ := (HL.out.src HS1.out).at_ (show j < x1.length by omega)
            have hvb := HY1.out _ (getD_mem x1 j (by omega))
            generalize hv : x1.getD j 0 = v at *
            by_cases hesc : v = 34 ∨ v = 92 ∨ v < 32
            · have hca := escZ_any v G G cap ys wr HL.out.raw (by omega) (by omega)
              have HCA : Hid (Calls Try.prog 13 #[.slice (some ⟨G, 0, none⟩) ys.length cap, .int .i32 v] wr fun e w' => ∃ es, IsEsc es ∧ e = .returned (.slice (some ⟨G, 0, none⟩) (ys.length + es.length) cap) ∧ Raw w' G G cap (ys ++ es) ∧ wr.grownBy w' (some G)) := hca
              clear hca
              rcases hesc with rfl | rfl | hq
              all_goals
                go_wp2_with fail
                refine HCA.out.mono ?_
                clear HCA
                rintro e9 w5 ⟨es, hes, rfl, hR, hGr⟩
                have hc92 := esc_cell hR hes
                have hys : (ys ++ es).length = ys.length + es.length := by simp
                rcases esc_len hes with hel | hel
                all_goals
                  rw [hel]
                  go_wp2
                  exact ⟨⟨j + 1, ys ++ es, by omega, by go_num, by rw [hys, hel], HL.out.grow hR hGr, HO.out.esc hes, by omega, esc_bytes HY.out hes⟩, by simp [intOf]; omega⟩
            · have hraw := HL.out.raw
              have v1 : v ≠ 34 := by omega
              have v2 : v ≠ 92 := by omega
              have v4 : (v == 34) = false := by simp [v1]
              have v5 : (v == 92) = false := by simp [v2]
              have v3 : decide (v < 32) = false := decide_eq_false (by omega)
              clear hesc
              go_wp2_with (at_builtin; refine wpList_append_fits _ rfl (.tmp 117) (.tmp 119) 22 rfl G 5 i0 1 Try.underlying22 hi hz1 G ys.length cap _ rfl (hraw.alloc _) ⟨wr.heap.size, 0, none⟩ 1 1 [.int .u8 v] rfl rfl (one_cell _ _) (one_one _) (by omega) ?_; intro w5 hown5 hgrow5)
              exact ⟨⟨j + 1, ys ++ [v], by omega, by go_num, by simp, HL.out.add (news := [v]) hown5 hgrow5, HO.out.plain v v1 v2, by simp; omega, add_bytes HY.out hvb⟩, by simp [intOf]; omega⟩
          · obtain rfl : l1 = j := by omega
            have hraw := HL.out.raw
            have hOle := HO.out.le
            go_wp2_with (at_builtin; refine wpList_append_fits _ rfl (.tmp 123) (.tmp 124) 22 rfl G 5 i0 1 Try.underlying22 hi hz1 G ys.length cap _ rfl (hraw.alloc _) ⟨wr.heap.size, 0, none⟩ 1 1 [.int .u8 34] rfl rfl (one_cell _ _) (one_one _) (by omega) ?_; intro w5 hown5 hgrow5)
            have HL5 : Hid (Bld w3 w5 G cap (ys ++ [34])) := HL.out.add (news := [34]) hown5 hgrow5
            clear hown5 hgrow5 hraw HL hlt hjl
            go_loopw [7, 14] (fun s7 s14 wr => ∃ i : Nat, i ≤ l2 ∧ s14 = .int .i64 i ∧ s7 = .slice (some ⟨G, 0, none⟩) (ys.length + 1 + i) cap ∧ Hid (Bld w3 wr G cap (ys ++ [34] ++ x2.take i))) (fun _ s14 _ => l2 - (intOf s14).toNat)
            case atStart => exact ⟨0, Nat.zero_le _, rfl, rfl, by rw [List.take_zero, List.append_nil]; exact HL5⟩
            case round =>
              clear HL5
              obtain ⟨i, hil, rfl, rfl, HL⟩ := hrel
              by_cases hlt : i < l2
              · obtain ⟨g2, rfl, hcell⟩ := (HL.out.src HS2.out).at_ (show i < x2.length by omega)
                have hxl : (ys ++ [34] ++ x2.take i).length = ys.length + 1 + i := by simp; omega
                have hraw := HL.out.raw
                rw [hxl] at hraw
                generalize hv : x2.getD i 0 = v at *
                go_wp2_with (at_builtin; refine wpList_append_fits _ rfl (.tmp 132) (.tmp 137) 22 rfl G 5 i0 1 Try.underlying22 hi hz1 G (ys.length + 1 + i) cap _ rfl (hraw.alloc _) ⟨wr.heap.size, 0, none⟩ 1 1 [.int .u8 v] rfl rfl (one_cell _ _) (one_one _) (by omega) ?_; intro w6 hown6 hgrow6)
                refine ⟨⟨i + 1, by omega, by go_num, rfl, ?_⟩, by simp [intOf]; omega⟩
                rw [take_add _ _ (by omega), hv, ← List.append_assoc]
                exact HL.out.add (news := [v]) (by rw [hxl]; exact hown6) hgrow6
              · obtain rfl : l2 = i := by omega
                rw [← e2, List.take_length] at HL
                have hxl : (ys ++ [34] ++ x2).length = ys.length + 1 + l2 := by simp; omega
                have hz := stringEndZ_any G cap (ys ++ [34] ++ x2) l0 ys.length wr (found_of HO.out HY.out HY2.out) (by omega) (by omega) HL.out.cells
                rw [hxl] at hz
                have HZ : Hid (Calls Try.prog 10 #[.slice (some ⟨G, 0, none⟩) (ys.length + 1 + l2) cap, .int .i64 l0] wr fun e w' => e = .returned (.int .i64 ys.length) ∧ w' = wr) := hz
                have hfin : Below w9.heap.size w9 wr := HB.out.trans (HL.out.bel.mono (by have := HB.out.size; omega))
                clear hz hlt hil
                go_wp2_with (go_at_call 10; refine HZ.out.mono ?_; clear HZ; rintro e8 w8 ⟨rfl, rfl⟩)
                go_ret
                exact ⟨by simp, hfin⟩
  · have G0 := gate_any a0 a1 a2 x0.length c0 x1.length c1 x2.length c2 w false m0 m1 m2 (decide_eq_false hfit)
    clear R0 R1 R2 k0 k1 k2
    generalize x0.length = l0 at *
    generalize x1.length = l1 at *
    generalize x2.length = l2 at *
    go_enter Try.func4, Try.ntmps4
    go_wp2_with (go_at_call 12; refine G0.mono ?_; clear G0; rintro e9 w9 ⟨rfl, rfl⟩)
    go_ret
    exact ⟨rfl, Below.refl _ _⟩
end Go.Proofs.Qxb6605550a
