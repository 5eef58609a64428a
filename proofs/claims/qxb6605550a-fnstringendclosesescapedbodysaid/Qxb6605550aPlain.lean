/- PLAIN: an escaped body, its quotes and the backslashes ahead of them. -/
import Derived.Lib.Bytealg
import Derived.Lib.Bytes
namespace Go.Proofs.Qxb6605550a.Pl

/-- How many backslashes come right before place e, from start on. -/
def bks (xs : List Int) (start : Nat) : Nat → Nat
  | 0 => 0
  | e + 1 => if start ≤ e ∧ xs.getD e 0 = 92 then bks xs start e + 1 else 0
theorem bks_prefix (xs ys : List Int) (start : Nat) : ∀ e, e ≤ xs.length → bks (xs ++ ys) start e = bks xs start e
  | 0, _ => rfl
  | e + 1, h => by
    have hg : (xs ++ ys).getD e 0 = xs.getD e 0 := by
      simp only [List.getD_eq_getElem?_getD]
      rw [List.getElem?_append_left (by omega)]
    unfold bks
    rw [hg, bks_prefix xs ys start e (by omega)]
theorem bks_le (xs : List Int) (start : Nat) : ∀ e, bks xs start e ≤ e
  | 0 => Nat.le_refl _
  | e + 1 => by
    have := bks_le xs start e
    unfold bks
    split <;> omega
theorem getD_new (xs : List Int) (c : Int) (ys : List Int) : (xs ++ c :: ys).getD xs.length 0 = c := by simp
theorem getD_old (xs ys : List Int) (i : Nat) (h : i < xs.length) : (xs ++ ys).getD i 0 = xs.getD i 0 := by
  simp only [List.getD_eq_getElem?_getD]
  rw [List.getElem?_append_left h]

/-- Every quote from start on is escaped; and what is behind is not. -/
structure Ok (xs : List Int) (start : Nat) : Prop where
  le : start ≤ xs.length
  quotes : ∀ i, start ≤ i → i < xs.length → xs.getD i 0 = 34 → bks xs start i % 2 = 1
  last : bks xs start xs.length % 2 = 0
theorem Ok.start (xs : List Int) : Ok xs xs.length := by
  refine ⟨Nat.le_refl _, fun i h1 h2 => by omega, ?_⟩
  cases h : xs.length with
  | zero => rfl
  | succ n => rw [bks, if_neg (by omega)]
theorem Ok.plain {xs : List Int} {start : Nat} (h : Ok xs start) (c : Int) (h1 : c ≠ 34) (h2 : c ≠ 92) : Ok (xs ++ [c]) start := by
  refine ⟨by have := h.le; simp; omega, fun i hi hl hq => ?_, ?_⟩
  · simp at hl
    by_cases e : i = xs.length
    · subst e
      rw [getD_new] at hq
      exact absurd hq h1
    · rw [getD_old _ _ _ (by omega)] at hq
      rw [bks_prefix _ _ _ _ (by omega)]
      exact h.quotes i hi (by omega) hq
  · rw [show (xs ++ [c]).length = xs.length + 1 from by simp, bks, getD_new, if_neg (fun q => h2 q.2)]
theorem Ok.pair {xs : List Int} {start : Nat} (h : Ok xs start) (c : Int) : Ok (xs ++ [92, c]) start := by
  have hle := h.le
  have b0 : bks (xs ++ [92, c]) start xs.length = bks xs start xs.length := bks_prefix _ _ _ _ (Nat.le_refl _)
  have b1 : bks (xs ++ [92, c]) start (xs.length + 1) = bks xs start xs.length + 1 := by rw [bks, getD_new, if_pos ⟨hle, rfl⟩, b0]
  have g1 : (xs ++ [92, c]).getD (xs.length + 1) 0 = c := by
    have : xs ++ [92, c] = (xs ++ [92]) ++ [c] := by simp
    rw [this]
    have h2 := getD_new (xs ++ [92]) c []
    rw [show (xs ++ [(92 : Int)]).length = xs.length + 1 from by simp] at h2
    exact h2
  have b2 : bks (xs ++ [92, c]) start (xs.length + 2) = if start ≤ xs.length + 1 ∧ c = 92 then bks xs start xs.length + 1 + 1 else 0 := by
    rw [bks, g1, b1]
  have hl := h.last
  refine ⟨by simp; omega, fun i hi hlt hq => ?_, ?_⟩
  · simp at hlt
    by_cases e : i = xs.length
    · subst e
      rw [getD_new] at hq
      omega
    · by_cases e2 : i = xs.length + 1
      · subst e2
        rw [b1]
        omega
      · rw [getD_old _ _ _ (by omega)] at hq
        rw [bks_prefix _ _ _ _ (by omega)]
        exact h.quotes i hi (by omega) hq
  · rw [show (xs ++ [92, c]).length = xs.length + 2 from by simp, b2]
    split <;> omega
theorem Ok.plains {start : Nat} : ∀ (ys : List Int) {xs : List Int}, Ok xs start → (∀ c ∈ ys, c ≠ 34 ∧ c ≠ 92) → Ok (xs ++ ys) start
  | [], xs, h, _ => by simpa using h
  | c :: ys, xs, h, hy => by
    have h1 := h.plain c (hy c (by simp)).1 (hy c (by simp)).2
    have h2 := Ok.plains ys h1 (fun d hd => hy d (by simp [hd]))
    simpa using h2

/-- What an escape is, for our purpose. -/
def IsEsc (es : List Int) : Prop := ∃ x ys, es = 92 :: x :: ys ∧ (∀ c ∈ ys, c ≠ 34 ∧ c ≠ 92) ∧ (ys.length = 0 ∨ ys.length = 4) ∧ ∀ c ∈ es, 0 ≤ c ∧ c ≤ 255
theorem Ok.esc {xs es : List Int} {start : Nat} (h : Ok xs start) (he : IsEsc es) : Ok (xs ++ es) start := by
  obtain ⟨x, ys, rfl, hy, _, _⟩ := he
  have h2 := (h.pair x).plains ys hy
  simpa using h2

theorem indexByte_first (c : UInt8) : ∀ (l : List UInt8) (j : Nat), l[j]? = some c → ∃ k : Nat, Lib.indexByte l c = k ∧ k ≤ j ∧ l[k]? = some c
  | [], j, h => by simp at h
  | b :: l, j, h => by
    by_cases hb : b = c
    · subst hb
      exact ⟨0, by simp [Lib.indexByte], Nat.zero_le _, rfl⟩
    · cases j with
      | zero => simp at h; exact absurd h hb
      | succ j =>
        simp at h
        obtain ⟨k, hk, hkj, hkc⟩ := indexByte_first c l j h
        refine ⟨k + 1, ?_, by omega, by simpa using hkc⟩
        unfold Lib.indexByte
        rw [if_neg (by simpa using hb), hk, if_neg (by simp)]
        omega

/-- The search for a quote: it finds one, not behind the closing one. -/
theorem find_quote (xs : List Int) (hw : ∀ c ∈ xs, 0 ≤ c ∧ c ≤ 255) (frm E : Nat) (hf : frm ≤ E) (hE : xs[E]? = some 34) :
    ∃ k : Nat, Lib.indexByte (Lib.bytesOf (xs.drop frm)) 34 = k ∧ frm + k ≤ E ∧ xs[frm + k]? = some 34 := by
  have h1 : (Lib.bytesOf (xs.drop frm))[E - frm]? = some 34 := by
    unfold Lib.bytesOf
    rw [List.getElem?_map, List.getElem?_drop, show frm + (E - frm) = E from by omega, hE]
    rfl
  obtain ⟨k, hk, hkj, hkc⟩ := indexByte_first 34 _ _ h1
  refine ⟨k, hk, by omega, ?_⟩
  unfold Lib.bytesOf at hkc
  rw [List.getElem?_map, List.getElem?_drop] at hkc
  cases hx : xs[frm + k]? with
  | none => rw [hx] at hkc; cases hkc
  | some c =>
    rw [hx] at hkc
    have hc := hw c (List.mem_of_getElem? hx)
    simp only [Option.map_some, Option.some.injEq] at hkc
    have h2 := congrArg UInt8.toNat hkc
    simp at h2
    congr 1
    omega

end Go.Proofs.Qxb6605550a.Pl
