/- Plain words, plainly. -/
import Derived.Test.Qxb6605687aDoorP8
namespace Go.Proofs.Qxb6605687aDoor
set_option linter.unusedSimpArgs false
set_option linter.unusedVariables false

def nPl (c : Int) : Bool := c == 32 || (decide (9 ≤ c) && decide (c ≤ 13)) || c == 34 || c == 39 || c == 0
/-- A plain word. -/
def Pw (s : List Int) : Prop := s ≠ [] ∧ ∀ x ∈ s, nPl x = false
/-- The words behind the first, then z. -/
def pr (z : List Int) : List (List Int) → List Int
  | [] => z
  | s :: S => [32, 9, 32] ++ s ++ pr z S
def pl (z : List Int) : List (List Int) → List Int
  | [] => z
  | s :: S => s ++ pr z S

theorem nPl_ne {x : Int} (h : nPl x = false) : isBr x = false ∧ isSp x = false ∧ x ≠ 34 ∧ x ≠ 39 ∧ x ≠ 0 ∧ x ≠ 10 ∧ x ≠ 13 := by
  simp [nPl] at h
  simp [isBr, isSp]
  omega

theorem wd_plain : ∀ (s : List Int) (g : Nat) (r A : List Int), (∀ x ∈ s, nPl x = false) → (r = [] ∨ isBr (r.getD 0 0) = true) → s.length < g → wd g (s ++ r) 0 A = (some (r, 0), A ++ s)
  | [], 0, r, A, _, hr, hg => by simp at hg
  | [], g + 1, r, A, _, hr, hg => by
    cases r with
    | nil => simp [wd]
    | cons c r =>
      have hc : isBr c = true := by rcases hr with h | h; cases h; simpa using h
      rw [List.nil_append, wd_cons, if_pos ⟨rfl, hc⟩, List.append_nil]
  | c :: s, 0, r, A, hb, hr, hg => by simp at hg
  | c :: s, g + 1, r, A, hb, hr, hg => by
    have ih := wd_plain s g r (A ++ [c]) (fun x hx => hb x (by simp [hx])) hr (by simp at hg; omega)
    obtain ⟨h1, h2, h3, h4, h5, _⟩ := nPl_ne (hb c (by simp))
    rw [List.cons_append, wd_cons, if_neg (by rw [h1]; simp), if_neg (by simp [h3, h4]), if_neg h5, if_neg (by simp [hexAt]), if_neg (by simp), if_neg (by simp), ih, List.append_assoc]
    rfl
theorem wd_pw (s r A : List Int) (c : Int) (t : List Int) (hp : Pw s) (hr : r = [] ∨ isBr (r.getD 0 0) = true) (he : s ++ r = c :: t) : wd (t.length + 2) (c :: t) 0 A = (some (r, 0), A ++ s) := by
  rw [← he]
  refine wd_plain s _ r A hp.2 hr ?_
  have := congrArg List.length he
  simp at this
  omega
theorem skp_pw (s r : List Int) (hp : Pw s) : skp (s ++ r) = s ++ r := by
  obtain ⟨h1, h2⟩ := hp
  cases s with
  | nil => exact absurd rfl h1
  | cons c s =>
    rw [List.cons_append, skp, if_neg]
    rw [(nPl_ne (h2 c (by simp))).2.1]
    simp
theorem pr_start (z : List Int) (hz : z = [] ∨ isBr (z.getD 0 0) = true) (S : List (List Int)) : pr z S = [] ∨ isBr ((pr z S).getD 0 0) = true := by
  cases S with
  | nil => exact hz
  | cons s S => exact .inr (by simp [pr, isBr])
theorem skp_pr (z s : List Int) (S : List (List Int)) (hp : Pw s) : skp (pr z (s :: S)) = s ++ pr z S := by
  rw [pr]
  simp only [List.cons_append, List.nil_append]
  rw [skp, if_pos (by simp [isSp]), skp, if_pos (by simp [isSp]), skp, if_pos (by simp [isSp]), skp_pw s _ hp]
/-- The words, then z. -/
theorem spl_pr (z : List Int) (hz : z = [] ∨ isBr (z.getD 0 0) = true) : ∀ (S : List (List Int)) (g : Nat) (A : List Int) (ags : List (List Int)), (∀ s ∈ S, Pw s) → spl (g + S.length) (pr z S) A ags = spl g z (A ++ S.flatten) (ags ++ S)
  | [], g, A, ags, _ => by simp [pr]
  | s :: S, g, A, ags, hb => by
    have ih := spl_pr z hz S g (A ++ s) (ags ++ [s]) (fun x hx => hb x (by simp [hx]))
    have hp := hb s (by simp)
    obtain ⟨c, t, he⟩ : ∃ c t, s ++ pr z S = c :: t := by
      cases s with
      | nil => exact absurd rfl hp.1
      | cons c s => exact ⟨_, _, rfl⟩
    rw [List.length_cons, ← Nat.add_assoc, spl_word (g + S.length) _ A (A ++ s) ags c t (pr z S) ((skp_pr z s S hp).trans he) (wd_pw s (pr z S) A c t hp (pr_start z hz S) he), List.drop_left, ih]
    simp
theorem skp_two (l : List Int) : skp (32 :: 32 :: l) = skp l := by
  rw [skp, if_pos (by simp [isSp]), skp, if_pos (by simp [isSp])]
theorem spl_skp (g : Nat) (l l' A : List Int) (ags : List (List Int)) (h : skp l = skp l') : spl g l A ags = spl g l' A ags := by
  cases g with
  | zero => rfl
  | succ g => rw [spl, spl, h]
theorem spl_pl (z : List Int) (hz : z = [] ∨ isBr (z.getD 0 0) = true) (S : List (List Int)) (g : Nat) (A : List Int) (ags : List (List Int)) (hb : ∀ s ∈ S, Pw s) : spl (g + S.length) (32 :: 32 :: pl z S) A ags = spl g z (A ++ S.flatten) (ags ++ S) := by
  rw [← spl_pr z hz S g A ags hb]
  refine spl_skp _ _ _ _ _ ?_
  rw [skp_two]
  cases S with
  | nil => rfl
  | cons s S => rw [skp_pr z s S (hb s (by simp)), pl, skp_pw s _ (hb s (by simp))]
theorem pr_len (z : List Int) : ∀ S : List (List Int), S.length ≤ (pr z S).length
  | [] => Nat.zero_le _
  | s :: S => by
    have := pr_len z S
    simp [pr]
    omega
theorem pl_len (z : List Int) (S : List (List Int)) : S.length ≤ (pl z S).length + 1 := by
  cases S with
  | nil => exact Nat.zero_le _
  | cons s S =>
    have := pr_len z S
    simp [pl]
    omega
theorem pr_mem (z : List Int) (Q : Int → Prop) (hz : ∀ x ∈ z, Q x) (h32 : Q 32) (h9 : Q 9) (hp : ∀ x, nPl x = false → Q x) : ∀ (S : List (List Int)), (∀ s ∈ S, Pw s) → ∀ x ∈ pr z S, Q x
  | [], _, x, hx => hz x hx
  | s :: S, hb, x, hx => by
    simp only [pr, List.mem_append, List.mem_cons, List.not_mem_nil, or_false] at hx
    rcases hx with ((rfl | rfl | rfl) | h) | h
    · exact h32
    · exact h9
    · exact h32
    · exact hp x ((hb s (by simp)).2 x h)
    · exact pr_mem z Q hz h32 h9 hp S (fun s hs => hb s (by simp [hs])) x h
theorem pl_mem (z : List Int) (Q : Int → Prop) (hz : ∀ x ∈ z, Q x) (h32 : Q 32) (h9 : Q 9) (hp : ∀ x, nPl x = false → Q x) (S : List (List Int)) (hb : ∀ s ∈ S, Pw s) : ∀ x ∈ pl z S, Q x := by
  cases S with
  | nil => exact hz
  | cons s S =>
    intro x hx
    rcases List.mem_append.1 hx with h | h
    · exact hp x ((hb s (by simp)).2 x h)
    · exact pr_mem z Q hz h32 h9 hp S (fun s hs => hb s (by simp [hs])) x h

/-- What is glued on behind the words. -/
def sfx (glued op : Bool) : List Int := if glued then [32, 34, 97, 98, 34, 99] else if op then [32, 39, 97, 98] else []
theorem sfx_start (g o : Bool) : sfx g o = [] ∨ isBr ((sfx g o).getD 0 0) = true := by
  cases g <;> cases o <;> simp [sfx, isBr]
theorem sfx_mem (g o : Bool) : ∀ x ∈ sfx g o, x ≠ 0 ∧ x ≠ 10 ∧ x ≠ 13 := by
  cases g <;> cases o <;> simp [sfx]
theorem spl_sfx_ff (g : Nat) (A : List Int) (ags : List (List Int)) : spl (g + 1) (sfx false false) A ags = (true, A, ags) := spl_nil g _ A ags rfl
theorem spl_sfx_g (g : Nat) (o : Bool) (A : List Int) (ags : List (List Int)) : (spl (g + 1) (sfx true o) A ags).1 = false := by
  have hw : wd (4 + 2) [34, 97, 98, 34, 99] 0 A = (none, A ++ [97] ++ [98]) := by
    rw [wd_cons, if_neg (by simp [isBr]), if_pos (by simp), wd_cons, if_neg (by simp), if_neg (by simp), if_neg (by simp), if_neg (by simp [hexAt]), if_neg (by simp), if_neg (by simp),
      wd_cons, if_neg (by simp), if_neg (by simp), if_neg (by simp), if_neg (by simp [hexAt]), if_neg (by simp), if_neg (by simp), wd_cons, if_neg (by simp), if_neg (by simp), if_pos rfl, if_neg (by simp [isSp])]
  rw [spl_glued g (sfx true o) A (A ++ [97] ++ [98]) ags 34 [97, 98, 34, 99] (by simp [sfx, skp, isSp]) hw]
theorem spl_sfx_o (g : Nat) (A : List Int) (ags : List (List Int)) : (spl (g + 1) (sfx false true) A ags).1 = false := by
  have hw : wd (2 + 2) [39, 97, 98] 0 A = (some ([], 39), A ++ [97] ++ [98]) := by
    rw [wd_cons, if_neg (by simp [isBr]), if_pos (by simp), wd_cons, if_neg (by simp), if_neg (by simp), if_neg (by simp), if_neg (by simp [hexAt]), if_neg (by simp), if_neg (by simp),
      wd_cons, if_neg (by simp), if_neg (by simp), if_neg (by simp), if_neg (by simp [hexAt]), if_neg (by simp), if_neg (by simp), wd]
  rw [spl_open g (sfx false true) A (A ++ [97] ++ [98]) ags 39 [97, 98] [] 39 (by simp [sfx, skp, isSp]) hw (by simp)]

theorem spl_line (g o : Bool) (S : List (List Int)) (hb : ∀ s ∈ S, Pw s) : split (32 :: 32 :: pl (sfx g o) S) [] [] = spl ((32 :: 32 :: pl (sfx g o) S).length + 1 - S.length) (sfx g o) S.flatten S := by
  have hl := pl_len (sfx g o) S
  have hm := pl_mem (sfx g o) (fun x => x ≠ 0) (fun x hx => (sfx_mem g o x hx).1) (by simp) (by simp) (fun x hx => (nPl_ne hx).2.2.2.2.1) S hb
  unfold split
  rw [toNul_none _ (fun x hx => by
    rcases List.mem_cons.1 hx with rfl | hx
    · simp
    · rcases List.mem_cons.1 hx with rfl | hx
      · simp
      · exact hm x hx)]
  have := spl_pl (sfx g o) (sfx_start g o) S ((32 :: 32 :: pl (sfx g o) S).length + 1 - S.length) [] [] hb
  rw [Nat.sub_add_cancel (by simp; omega)] at this
  rw [this]
  simp
theorem split_words (S : List (List Int)) (hb : ∀ s ∈ S, Pw s) : split (32 :: 32 :: pl (sfx false false) S) [] [] = (true, S.flatten, S) := by
  have hl := pl_len (sfx false false) S
  rw [spl_line false false S hb, show (32 :: 32 :: pl (sfx false false) S).length + 1 - S.length = ((32 :: 32 :: pl (sfx false false) S).length - S.length) + 1 by simp; omega, spl_sfx_ff]
theorem split_bad (g o : Bool) (h : g = true ∨ o = true) (S : List (List Int)) (hb : ∀ s ∈ S, Pw s) : (split (32 :: 32 :: pl (sfx g o) S) [] []).1 = false := by
  have hl := pl_len (sfx g o) S
  rw [spl_line g o S hb, show (32 :: 32 :: pl (sfx g o) S).length + 1 - S.length = ((32 :: 32 :: pl (sfx g o) S).length - S.length) + 1 by simp; omega]
  cases g with
  | true => exact spl_sfx_g _ _ _ _
  | false =>
    cases o with
    | true => exact spl_sfx_o _ _ _
    | false => simp at h
end Go.Proofs.Qxb6605687aDoor
