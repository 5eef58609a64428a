/- PLAIN: how far a token reaches; what the parser holds ahead. -/
import Derived.Test.Qxb6604722aLex5
namespace Go.Proofs.Qxb6604722a.Lx

theorem ext_size (s : ByteArray) (i j : Nat) : (s.extract i j).size ≤ s.size := by
  have h1 : (s.extract i j).size = min j s.size - i := ByteArray.size_extract
  omega

/-- What a token may be. -/
structure TokBd (s : ByteArray) (t : Tok) : Prop where
  text : t.text.size ≤ s.size + 100
  val : t.val.size ≤ s.size + 100

theorem quTok_bd (s : ByteArray) (p : Nat) (kind : Int) (q : UInt8) (msg : ByteArray) (hp : p < s.size) (hm : msg.size ≤ 100) :
    TokBd s (quTok s p kind q msg).1 ∧ p < (quTok s p kind q msg).2 ∧ (quTok s p kind q msg).2 ≤ s.size := by
  unfold quTok
  cases h : quF s q s.size (p + 1) [] with
  | none => exact ⟨⟨by have := ext_size s p s.size; simp only; omega, by simp only; omega⟩, hp, Nat.le_refl _⟩
  | some lr =>
    obtain ⟨l, r⟩ := lr
    have hb := quF_bd s q s.size (p + 1) [] l r (by omega) h
    simp only [List.length_nil] at hb
    have hl : (⟨l.toArray⟩ : ByteArray).size = l.length := by
      show l.toArray.size = _
      simp
    exact ⟨⟨by have := ext_size s p r; simp only; omega, by simp only [hl]; omega⟩, by simp only; omega, hb.2.1⟩

theorem numTok_bd (s : ByteArray) (p : Nat) (hp : p < s.size) (hn : numB s p = true) : TokBd s (numTok s p).1 ∧ p < (numTok s p).2 ∧ (numTok s p).2 ≤ s.size := by
  have hsz : (s.extract p s.size).size = s.size - p := by
    have h1 : (s.extract p s.size).size = min s.size s.size - p := ByteArray.size_extract
    omega
  have hle := scanNum_le (s.extract p s.size)
  have hat : ∀ j, p + j < s.size → bAt (s.extract p s.size) j = bAt s (p + j) := fun j hj => by
    rw [bAt_eq _ j (by omega), bAt_eq s (p + j) hj]
    have e1 : (s.extract p s.size).data.toList[j]? = s.data.toList[p + j]? := by
      rw [Lib.extract_to_end, List.getElem?_drop]
    have e2 : (s.extract p s.size).data.toList[j]? = some ((s.extract p s.size)[j]'(by omega)) := List.getElem?_eq_getElem (l := (s.extract p s.size).data.toList) (by rw [Array.length_toList]; show j < (s.extract p s.size).size; omega)
    have e3 : s.data.toList[p + j]? = some (s[p + j]'hj) := List.getElem?_eq_getElem (l := s.data.toList) (by rw [Array.length_toList]; exact hj)
    rw [e2, e3] at e1
    simp only [Option.some.injEq] at e1
    rw [e1]
  have hpos : 0 < (scanNum (s.extract p s.size)).1 := by
    generalize hX : s.extract p s.size = X at *
    have h0 := hat 0 (by omega)
    rw [Nat.add_zero] at h0
    unfold numB at hn
    unfold scanNum
    have hone : ∀ i, i < X.size → digB (bAt X i) = true → i < skipD X i := fun i hi hd => by
      unfold skipD
      obtain ⟨k, hk⟩ : ∃ k, X.size = k + 1 := ⟨X.size - 1, by omega⟩
      rw [hk, scan_step digB X k i _ hi rfl hd]
      have := scan_ge digB X k (i + 1)
      omega
    cases hd : digB (bAt s p) with
    | true =>
      have h1 := hone 0 (by omega) (by rw [h0]; exact hd)
      have h2 := skipD_le X 0 (by omega)
      split
      · have h3 := skipD_ge X (skipD X 0 + 1)
        rw [if_neg (by omega)]
        have h4 := (expo_le X (skipD X (skipD X 0 + 1)) false (skipD_le _ _ (by omega))).1
        omega
      · rw [if_neg (by omega)]
        have h4 := (expo_le X (skipD X 0) true h2).1
        omega
    | false =>
      simp only [hd, Bool.false_or, Bool.and_eq_true, beq_iff_eq, decide_eq_true_eq] at hn
      obtain ⟨⟨h46, hp1⟩, hd2⟩ := hn
      have hs0 : skipD X 0 = 0 := by
        unfold skipD
        exact scan_stop digB X _ 0 _ h0 hd
      have h5 := hat 1 (by omega)
      have h6 := hone 1 (by omega) (by rw [h5]; exact hd2)
      rw [hs0, if_pos ⟨by omega, by rw [h0]; exact h46⟩]
      have h7 : ¬ skipD X (0 + 1) = 1 := by
        have : skipD X (0 + 1) = skipD X 1 := rfl
        omega
      rw [if_neg h7]
      have h8 := (expo_le X (skipD X (0 + 1)) false (skipD_le _ _ (by omega))).1
      have : skipD X (0 + 1) = skipD X 1 := rfl
      omega
  unfold numTok
  exact ⟨⟨by have := ext_size s p (p + (scanNum (s.extract p s.size)).1); simp only; omega, by have := ext_size s p (p + (scanNum (s.extract p s.size)).1); simp only; omega⟩, by simp only; omega, by simp only; omega⟩

theorem readF_bd (s : ByteArray) (mk : Bool) (p md : Nat) (hp : p ≤ s.size) (hm : md ≤ p) :
    TokBd s (readF s mk p md).1 ∧ p ≤ (readF s mk p md).2.1 ∧ (readF s mk p md).2.1 ≤ s.size ∧ (readF s mk p md).2.2 ≤ (readF s mk p md).2.1 ∧ ((readF s mk p md).1.kind ≠ 0 → p < (readF s mk p md).2.1) := by
  have hb0 : (bs []).size = 0 := rfl
  have hb59 : (bs [59]).size = 1 := rfl
  have hb58 : (bs [58, 58]).size = 2 := rfl
  have hb63 : (bs [63]).size = 1 := rfl
  unfold readF
  split
  · exact ⟨⟨by simp only; omega, by simp only; omega⟩, Nat.le_refl _, hp, hm, fun h => absurd rfl h⟩
  · rename_i h0
    have hlt : p < s.size := by omega
    split
    · rename_i hw
      have h1 : p < wordEnd s p := by
        unfold wordEnd
        obtain ⟨k, hk⟩ : ∃ k, s.size = k + 1 := ⟨s.size - 1, by omega⟩
        rw [hk, scan_step wptB s k p _ hlt rfl (by simp [wptB, hw])]
        have := scan_ge wptB s k (p + 1)
        omega
      have h2 : wordEnd s p ≤ s.size := scan_le _ _ _ _ hp
      have h3 := ext_size s p (wordEnd s p)
      exact ⟨⟨by simp only; omega, by simp only [foldB_size]; omega⟩, by simp only; omega, h2, by simp only; omega, fun _ => h1⟩
    · split
      · rename_i hn
        obtain ⟨h1, h2, h3⟩ := numTok_bd s p hlt hn
        exact ⟨h1, by simp only; omega, h3, by simp only; omega, fun _ => h2⟩
      · split
        · obtain ⟨h1, h2, h3⟩ := quTok_bd s p 3 39 msgStr hlt (by decide)
          exact ⟨h1, by simp only; omega, h3, by simp only; omega, fun _ => h2⟩
        · split
          · obtain ⟨h1, h2, h3⟩ := quTok_bd s p 2 34 msgIdent hlt (by decide)
            split
            · exact ⟨⟨h1.text, by show msgZero.size ≤ _; have : msgZero.size = 29 := rfl; omega⟩, by simp only; omega, h3, by simp only; omega, fun _ => h2⟩
            · exact ⟨h1, by simp only; omega, h3, by simp only; omega, fun _ => h2⟩
          · split
            · exact ⟨⟨by simp only; omega, by simp only; omega⟩, by simp only; omega, by simp only; omega, by simp only; omega, fun _ => by simp only; omega⟩
            · split
              · rename_i h58
                have := pre_two s p _ _ h58.2
                exact ⟨⟨by simp only; omega, by simp only; omega⟩, by simp only; omega, by simp only; omega, by simp only; omega, fun _ => by simp only; omega⟩
              · split
                · exact ⟨⟨by simp only; omega, by simp only; omega⟩, by simp only; omega, by simp only; omega, by simp only; omega, fun _ => by simp only; omega⟩
                · split
                  · obtain ⟨h1, h2⟩ := opStop_bd s mk p hlt
                    have h3 := ext_size s p (opStop s mk p)
                    exact ⟨⟨by simp only; omega, by simp only; omega⟩, by simp only; omega, h2, by simp only; omega, fun _ => h1⟩
                  · have h3 := ext_size s p (p + 1)
                    exact ⟨⟨by simp only; omega, by simp only; omega⟩, by simp only; omega, by simp only; omega, by simp only; omega, fun _ => by simp only; omega⟩

/-- A token of 'next': it lies within the source; the place moves on unless the text is at its end. -/
theorem nextF_bd (s : ByteArray) (mk : Bool) (p md : Nat) (hp : p ≤ s.size) (hm : md ≤ p) :
    TokBd s (nextF s mk p md).1 ∧ (nextF s mk p md).1.pos ≤ s.size ∧ p ≤ (nextF s mk p md).2.1 ∧ (nextF s mk p md).2.1 ≤ s.size ∧ (nextF s mk p md).2.2 ≤ (nextF s mk p md).2.1 ∧ ((nextF s mk p md).1.kind ≠ 0 → p < (nextF s mk p md).2.1) := by
  have hs := skipF_bd s s.size p hp
  unfold nextF
  split
  · rename_i st hst
    obtain ⟨h1, h2⟩ := hs.2.2 st hst
    have hb : (bs [47, 42]).size = 2 := rfl
    have hc : msgCom.size = 23 := rfl
    exact ⟨⟨by simp only; omega, by simp only; omega⟩, by simp only; omega, hs.1, hs.2.1, by simp only; omega, fun _ => by simp only; omega⟩
  · obtain ⟨h1, h2, h3, h4, h5⟩ := readF_bd s mk (skipF s s.size p).2 md hs.2.1 (by omega)
    exact ⟨⟨h1.text, h1.val⟩, hs.2.1, by simp only; omega, h3, h4, fun h => by have := h5 h; simp only; omega⟩

end Go.Proofs.Qxb6604722a.Lx
