/- What the law on offsets says, plainly. -/
import Derived.Test.Qxb6605687aDoorW9
import Derived.Test.Qxb6605687aDoorH1
namespace Go.Proofs.Qxb6605687aDoor
set_option linter.unusedSimpArgs false
set_option linter.unusedVariables false

def dat : List ByteArray → ByteArray → List Int
  | [], tl => sb tl
  | s :: S, tl => sb s ++ 10 :: dat S tl
def sumS : List ByteArray → Nat
  | [] => 0
  | s :: S => s.size + sumS S
theorem dat_len : ∀ (S : List ByteArray) (tl : ByteArray), (dat S tl).length = sumS S + S.length + tl.size
  | [], tl => by simp [dat, sumS, sb_len]
  | s :: S, tl => by
    rw [dat, List.length_append, List.length_cons, dat_len S tl, sb_len, sumS, List.length_cons]
    omega
theorem dat_by : ∀ (S : List ByteArray) (tl : ByteArray), By (dat S tl)
  | [], tl => sb_by tl
  | s :: S, tl => by
    rw [dat]
    refine (sb_by s).append ?_
    intro x hx
    rcases List.mem_cons.1 hx with rfl | hx
    · omega
    · exact dat_by S tl x hx
theorem rl_line (s : ByteArray) (r : List Int) (h : fi (sb s) 10 = none) (hs : s.size ≤ 65536) : rl (sb s ++ 10 :: r) = (s.size, 0) := by
  unfold rl
  rw [fi_append, h]
  simp only [fi, if_true, Option.map_some, Nat.zero_add, sb_len]
  rw [if_pos hs]
theorem rl_tail (s : ByteArray) (h : fi (sb s) 10 = none) (hs : s.size ≤ 65536) : rl (sb s) = (s.size, 2) := by
  unfold rl
  rw [h]
  simp only [sb_len]
  rw [if_pos hs]
theorem dat_next (s : ByteArray) (S : List ByteArray) (tl : ByteArray) : (dat (s :: S) tl).drop (s.size + 1) = dat S tl := by
  rw [dat, show s.size + 1 = (sb s).length + 1 by rw [sb_len], ← List.drop_drop, List.drop_left]
  rfl
theorem drop_at (S : List ByteArray) (i : Nat) (h : i < S.length) : S.drop i = S.getD i default :: S.drop (i + 1) := by
  rw [List.drop_eq_getElem_cons h]
  congr 1
  simp [h]
theorem sumS_take (S : List ByteArray) (i : Nat) (h : i < S.length) : sumS (S.take (i + 1)) = sumS (S.take i) + (S.getD i default).size := by
  have key : ∀ (a : List ByteArray) (s : ByteArray), sumS (a ++ [s]) = sumS a + s.size := by
    intro a s
    induction a with
    | nil => simp [sumS]
    | cons x a ih => rw [List.cons_append, sumS, sumS, ih]; omega
  rw [List.take_succ_eq_append_getElem h, key]
  congr 2
  simp [h]

def leftLen : Option (List Int × Int) → Nat
  | some (r, _) => r.length
  | none => 0
theorem wd_bound : ∀ (g : Nat) (l : List Int) (q : Int) (A : List Int) (o : Option (List Int × Int)) (A' : List Int), wd g l q A = (o, A') → A'.length + leftLen o ≤ A.length + l.length
  | 0, l, q, A, o, A', h => by rw [wd] at h; simp at h; rw [← h.1, ← h.2]; simp [leftLen]
  | g + 1, [], q, A, o, A', h => by rw [wd] at h; simp at h; rw [← h.1, ← h.2]; simp [leftLen]
  | g + 1, c :: r, q, A, o, A', h => by
    rw [wd_cons] at h
    split at h
    · simp at h; rw [← h.1, ← h.2]; simp [leftLen]
    · split at h
      · have := wd_bound g r _ _ _ _ h; simp; omega
      · split at h
        · split at h
          · simp at h; rw [← h.1, ← h.2]; simp [leftLen]
          · simp at h; rw [← h.1, ← h.2]; simp [leftLen]
        · split at h
          · rename_i hx
            have h3 : 3 ≤ r.length := by
              simp only [hexAt, Bool.and_eq_true, decide_eq_true_eq] at hx
              exact hx.1.1.1.2
            have := wd_bound g _ _ _ _ _ h; simp at this ⊢; omega
          · split at h
            · have := wd_bound g _ _ _ _ _ h; simp at this ⊢; omega
            · split at h
              · have := wd_bound g _ _ _ _ _ h; simp at this ⊢; omega
              · have := wd_bound g _ _ _ _ _ h; simp at this ⊢; omega
theorem skp_head : ∀ (l : List Int) (c : Int) (r : List Int), skp l = c :: r → isSp c = false
  | [], c, r, h => by simp [skp] at h
  | x :: l, c, r, h => by
    rw [skp] at h
    split at h
    · exact skp_head l c r h
    · rename_i hx
      injection h with h1 h2
      subst h1
      simpa using hx
theorem spl_bound : ∀ (g : Nat) (l A : List Int) (ags : List (List Int)), (spl g l A ags).2.1.length ≤ A.length + l.length ∧ (spl g l A ags).2.2.length ≤ ags.length + l.length
  | 0, l, A, ags => by simp [spl]
  | g + 1, l, A, ags => by
    have hs := skp_len l
    cases hk : skp l with
    | nil => rw [spl_nil g l A ags hk]; simp
    | cons c r =>
      rw [hk] at hs
      simp only [List.length_cons] at hs
      cases hw : wd (r.length + 2) (c :: r) 0 A with
      | mk o A' =>
        have hb := wd_bound _ _ _ _ _ _ hw
        simp only [List.length_cons] at hb
        cases o with
        | none =>
          rw [spl_glued g l A A' ags c r hk hw]
          simp only [leftLen] at hb ⊢
          refine ⟨by omega, by omega⟩
        | some lq =>
          obtain ⟨l', q⟩ := lq
          simp only [leftLen] at hb
          have hlt := wd_lt (r.length + 1) c r A l' q A' (isBr_of_isSp c (skp_head l c r hk)) hw
          by_cases hq : q = 0
          · subst hq
            rw [spl_word g l A A' ags c r l' hk hw]
            have ih := spl_bound g l' A' (ags ++ [A'.drop A.length])
            rw [List.length_append] at ih
            simp only [List.length_cons, List.length_nil] at ih
            omega
          · rw [spl_open g l A A' ags c r l' q hk hw hq]
            simp only
            refine ⟨by omega, by omega⟩
theorem split_bound (l A : List Int) (ags : List (List Int)) : (split l A ags).2.1.length ≤ A.length + l.length ∧ (split l A ags).2.2.length ≤ ags.length + l.length := by
  have h := spl_bound ((toNul l).length + 1) (toNul l) A ags
  have hl : (toNul l).length ≤ l.length := by
    unfold toNul
    cases hf : fi l 0 with
    | some k => simp only [List.length_take]; omega
    | none => exact Nat.le_refl _
  unfold split
  omega
end Go.Proofs.Qxb6605687aDoor
