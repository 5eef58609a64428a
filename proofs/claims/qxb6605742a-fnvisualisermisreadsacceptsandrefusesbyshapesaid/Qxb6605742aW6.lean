/- The law. -/
import Derived.Test.Qxb6605742aW5
namespace Go.Proofs.Qxb6605742a
open Go.RowKit
set_option maxHeartbeats 8000000
set_option maxRecDepth 100000
set_option linter.unusedSimpArgs false
set_option linter.unusedVariables false

theorem noAny_of (l la lr : List UInt8) (hl : l = la ++ lr) (h : la.any isBl = false) : Lib.NoAny l [32, 9] la.length := fun j b hj hb => by
  rw [hl, List.getElem?_append_left hj] at hb
  have hm := List.mem_of_getElem? hb
  have := List.any_eq_false.1 h b hm
  simp [isBl] at this
  simp [this]
theorem at_of (s : ByteArray) (la lr : List UInt8) (x : UInt8) (hl : s.data.toList = la ++ x :: lr) : ∀ h : la.length < s.size, s[la.length]'h = x := fun h => by
  have h1 := Lib.data_getElem? s la.length h
  rw [hl, List.getElem?_append_right (Nat.le_refl _), Nat.sub_self, List.getElem?_cons_zero] at h1
  exact (Option.some.inj h1).symm
theorem size_of (s : ByteArray) (la lr : List UInt8) (x : UInt8) (hl : s.data.toList = la ++ x :: lr) : la.length < s.size := by
  rw [Lib.size_eq, hl]
  simp
theorem extract_list (s : ByteArray) (i : Nat) : (s.extract i s.size).data.toList = s.data.toList.drop i := by
  rw [ByteArray.data_extract, Array.toList_extract, List.extract_eq_take_drop]
  rw [List.take_of_length_le]
  rw [List.length_drop, Lib.size_eq]
  exact Nat.le_refl _

theorem vm_space (s : ByteArray) (la lr : List UInt8) (v : Bool) (hs : s.size ≤ 2000000) (hl : s.data.toList = la ++ 32 :: 123 :: lr) (ha : la.any isBl = false) (hv : lr.contains 125 = v) (w : World) :
    Calls Try.prog 26 #[.string s] w fun e w' => e = .returned (.bool v) ∧ Below w.heap.size w w' := by
  have hi := size_of s la _ 32 hl
  have hr : (s.extract (la.length + 1) s.size).data.toList = 123 :: lr := by
    rw [extract_list, hl, ← List.drop_drop, List.drop_left]
    rfl
  refine zz_of s v w (vm_sp s la.length _ _ v w hs hi (Lib.indexAny_hit (noAny_of _ la _ hl ha) (by rw [hl, List.getElem?_append_right (Nat.le_refl _), Nat.sub_self, List.getElem?_cons_zero]) (by decide)) (fun h => by rw [at_of s la _ 32 hl h]; rfl) rfl ?_ ?_ rfl ?_)
  · rw [Lib.size_eq, hr]
    simp
  · rw [hr]
    rfl
  · rw [extract_list, hr, ← Lib.contains_iff_indexByte]
    exact hv
theorem vm_tabbed (s : ByteArray) (la lr : List UInt8) (hs : s.size ≤ 2000000) (hl : s.data.toList = la ++ 9 :: lr) (ha : la.any isBl = false) (w : World) :
    Calls Try.prog 26 #[.string s] w fun e w' => e = .returned (.bool false) ∧ Below w.heap.size w w' := by
  have hi := size_of s la _ 9 hl
  exact zz_of s false w (vm_tab s la.length w hs hi (Lib.indexAny_hit (noAny_of _ la _ hl ha) (by rw [hl, List.getElem?_append_right (Nat.le_refl _), Nat.sub_self, List.getElem?_cons_zero]) (by decide)) 9 (fun h => by rw [at_of s la _ 9 hl h]; rfl) (by decide))
theorem vm_bare (s : ByteArray) (hs : s.size ≤ 2000000) (ha : s.data.toList.any isBl = false) (w : World) :
    Calls Try.prog 26 #[.string s] w fun e w' => e = .returned (.bool false) ∧ Below w.heap.size w w' :=
  zz_of s false w (vm_none s w hs (Lib.indexAny_none (noAny_of _ _ [] (by simp) ha)))

theorem law7 (a b c : ByteArray) (w : World) (ha : a.size ≤ 9223372036854775807) (hb : b.size ≤ 9223372036854775807) (hc : c.size ≤ 9223372036854775807) :
    Calls Try.prog 7 #[.string a, .string b, .string c] w fun e w' => e = .returned (.bool true) ∧ Below w.heap.size w w' := by
  have HG : Hid (Calls Try.prog 24 #[.string a, .string b, .string c] w fun e w' => (∃ v, e = .returned (.bool v)) ∧ w' = w) := gate24 a b c w ha hb hc
  by_cases h1 : a.size ≤ 65536
  · by_cases h2 : b.size ≤ 65536
    · by_cases h3 : c.size ≤ 65536
      · obtain ⟨bv, hv⟩ : ∃ bv, a.data.toList.any isBl = bv := ⟨_, rfl⟩
        have HBL : Hid (Calls Try.prog 25 #[.string a] w fun e w' => e = .returned (.bool bv) ∧ w' = w) := blank_is a bv w (by omega) hv
        cases bv with
        | true =>
          clear hv
          go_enter Try.func7, Try.ntmps7
          go_wp2_with fail
          refine HG.out.mono ?_
          rintro e w1 ⟨⟨v, rfl⟩, h9⟩
          rw [h9]
          clear h9 w1 HG
          cases v with
          | false =>
            go_wp2
            go_ret
            exact ⟨rfl, Below.refl _ _⟩
          | true =>
            go_wp2_with (go_at_call 25; refine HBL.out.mono ?_; rintro e w1 ⟨rfl, h9⟩; rw [h9]; clear h9 w1)
            go_ret
            exact ⟨rfl, Below.refl _ _⟩
        | false =>
          have e1 : (a ++ ⟨#[32, 123]⟩ ++ b ++ ⟨#[125]⟩ ++ c : ByteArray).data.toList = a.data.toList ++ 32 :: 123 :: (b.data.toList ++ 125 :: c.data.toList) := by simp
          have e2 : (a ++ ⟨#[9]⟩ ++ b ++ ⟨#[32, 123]⟩ ++ c ++ ⟨#[125]⟩ : ByteArray).data.toList = a.data.toList ++ 9 :: (b.data.toList ++ 32 :: 123 :: (c.data.toList ++ [125])) := by simp
          have e4 : (a ++ ⟨#[32, 123]⟩ ++ b : ByteArray).data.toList = a.data.toList ++ 32 :: 123 :: b.data.toList := by simp
          obtain ⟨v4, hv4⟩ : ∃ v4, b.data.toList.contains 125 = v4 := ⟨_, rfl⟩
          have H1 : Hid (∀ w, Calls Try.prog 26 #[.string (a ++ ⟨#[32, 123]⟩ ++ b ++ ⟨#[125]⟩ ++ c)] w fun e w' => e = .returned (.bool true) ∧ Below w.heap.size w w') := fun w => vm_space _ _ _ true (by rw [Lib.size_eq, e1]; simp only [List.length_append, List.length_cons, ← Lib.size_eq]; omega) e1 hv (by simp) w
          have H2 : Hid (∀ w, Calls Try.prog 26 #[.string (a ++ ⟨#[9]⟩ ++ b ++ ⟨#[32, 123]⟩ ++ c ++ ⟨#[125]⟩)] w fun e w' => e = .returned (.bool false) ∧ Below w.heap.size w w') := fun w => vm_tabbed _ _ _ (by rw [Lib.size_eq, e2]; simp only [List.length_append, List.length_cons, List.length_nil, ← Lib.size_eq]; omega) e2 hv w
          have H3 : Hid (∀ w, Calls Try.prog 26 #[.string a] w fun e w' => e = .returned (.bool false) ∧ Below w.heap.size w w') := fun w => vm_bare a (by omega) hv w
          have H4 : Hid (∀ w, Calls Try.prog 26 #[.string (a ++ ⟨#[32, 123]⟩ ++ b)] w fun e w' => e = .returned (.bool v4) ∧ Below w.heap.size w w') := fun w => vm_space _ _ _ v4 (by rw [Lib.size_eq, e4]; simp only [List.length_append, List.length_cons, ← Lib.size_eq]; omega) e4 hv hv4 w
          have H5 : Hid (∀ w, Calls Try.prog 27 #[.string b, .int .u8 125] w fun e w' => e = .returned (.bool v4) ∧ w' = w) := fun w => has_is b v4 w (by omega) hv4
          clear e1 e2 e4 hv hv4
          go_enter Try.func7, Try.ntmps7
          go_wp2_with fail
          refine HG.out.mono ?_
          rintro e w1 ⟨⟨v, rfl⟩, h9⟩
          rw [h9]
          clear h9 w1 HG
          cases v with
          | false =>
            go_wp2
            go_ret
            exact ⟨rfl, Below.refl _ _⟩
          | true =>
            go_wp2_with (go_at_call 25; refine HBL.out.mono ?_; rintro e w1 ⟨rfl, h9⟩; rw [h9]; clear h9 w1)
            refine (H1.out _).mono ?_
            rintro e1 w1 ⟨rfl, b1⟩
            clear H1 HBL
            go_wp2_with fail
            refine (H2.out _).mono ?_
            rintro e2 w2 ⟨rfl, b2⟩
            clear H2
            go_wp2_with fail
            refine (H3.out _).mono ?_
            rintro e3 w3 ⟨rfl, b3⟩
            clear H3
            go_wp2_with fail
            refine (H4.out _).mono ?_
            rintro e4 w4 ⟨rfl, b4⟩
            clear H4
            have HB : Hid (Below w.heap.size w w4) := ((b1.trans (b2.mono b1.size)).trans (b3.mono (Nat.le_trans b1.size b2.size))).trans (b4.mono (Nat.le_trans (Nat.le_trans b1.size b2.size) b3.size))
            clear b1 b2 b3 b4
            cases v4 with
            | true =>
              go_wp2_with (go_at_call 27; refine (H5.out _).mono ?_; rintro e5 w5 ⟨rfl, h9⟩; rw [h9]; clear h9 w5)
              go_ret
              exact ⟨rfl, HB.out⟩
            | false =>
              go_wp2_with (go_at_call 27; refine (H5.out _).mono ?_; rintro e5 w5 ⟨rfl, h9⟩; rw [h9]; clear h9 w5)
              go_ret
              exact ⟨rfl, HB.out⟩
      · go_enter Try.func7, Try.ntmps7
        go_wp2_with fail
        refine HG.out.mono ?_
        rintro e w1 ⟨⟨v, rfl⟩, h9⟩
        rw [h9]
        clear h9 w1 HG
        cases v with
        | false =>
          go_wp2
          go_ret
          exact ⟨rfl, Below.refl _ _⟩
        | true =>
          go_wp2
          go_ret
          exact ⟨rfl, Below.refl _ _⟩
    · go_enter Try.func7, Try.ntmps7
      go_wp2_with fail
      refine HG.out.mono ?_
      rintro e w1 ⟨⟨v, rfl⟩, h9⟩
      rw [h9]
      clear h9 w1 HG
      cases v with
      | false =>
        go_wp2
        go_ret
        exact ⟨rfl, Below.refl _ _⟩
      | true =>
        go_wp2
        all_goals
          go_ret
          exact ⟨rfl, Below.refl _ _⟩
  · go_enter Try.func7, Try.ntmps7
    go_wp2_with fail
    refine HG.out.mono ?_
    rintro e w1 ⟨⟨v, rfl⟩, h9⟩
    rw [h9]
    clear h9 w1 HG
    cases v with
    | false =>
      go_wp2
      go_ret
      exact ⟨rfl, Below.refl _ _⟩
    | true =>
      go_wp2
      all_goals
        go_ret
        exact ⟨rfl, Below.refl _ _⟩
end Go.Proofs.Qxb6605742a
