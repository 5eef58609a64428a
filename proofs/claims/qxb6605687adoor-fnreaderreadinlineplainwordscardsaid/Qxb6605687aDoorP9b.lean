/- Plain words, built word by word. -/
import Derived.Test.Qxb6605687aDoorP9
import Derived.Test.Qxb6605687aDoorP8b
namespace Go.Proofs.Qxb6605687aDoor
set_option linter.unusedSimpArgs false
set_option linter.unusedVariables false

theorem pr_snoc : ∀ (a : List (List Int)) (s : List Int), pr [] (a ++ [s]) = pr [] a ++ ([32, 9, 32] ++ s)
  | [], s => by simp [pr]
  | x :: a, s => by
    rw [List.cons_append, pr, pr_snoc a s, pr]
    simp
theorem pl_snoc (a : List (List Int)) (s : List Int) : pl [] (a ++ [s]) = pl [] a ++ ((if a = [] then [] else [32, 9, 32]) ++ s) := by
  cases a with
  | nil => simp [pl, pr]
  | cons x a =>
    rw [List.cons_append, pl, pr_snoc, pl]
    simp
theorem pr_z (z : List Int) : ∀ (a : List (List Int)), pr z a = pr [] a ++ z
  | [] => by simp [pr]
  | x :: a => by
    rw [pr, pr_z z a, pr]
    simp
theorem pl_z (z : List Int) (a : List (List Int)) : pl z a = pl [] a ++ z := by
  cases a with
  | nil => simp [pl]
  | cons x a => rw [pl, pr_z, pl, List.append_assoc]
theorem pl_take0 (S : List ByteArray) (h : 0 < S.length) : pl [] ((Sb S).take (0 + 1)) = pl [] ((Sb S).take 0) ++ sb (S.getD 0 default) := by
  rw [Sb_take S 0 h, pl_snoc]
  simp
theorem pl_takeS (S : List ByteArray) (i : Nat) (h : i < S.length) (h0 : 0 < i) : pl [] ((Sb S).take (i + 1)) = pl [] ((Sb S).take i) ++ ([32, 9, 32] ++ sb (S.getD i default)) := by
  rw [Sb_take S i h, pl_snoc, if_neg]
  intro e
  have := congrArg List.length e
  rw [List.length_take, Sb_len, List.length_nil] at this
  omega
theorem pl_take_len (S : List ByteArray) : ∀ i, i ≤ S.length → (pl [] ((Sb S).take i)).length ≤ 3 * i + sumS (S.take i)
  | 0, _ => by simp [pl]
  | i + 1, h => by
    have ih := pl_take_len S i (by omega)
    have hs := sumS_take S i (by omega)
    rcases Nat.eq_zero_or_pos i with h0 | h0
    · subst h0
      rw [pl_take0 S (by omega), List.length_append, sb_len]
      omega
    · rw [pl_takeS S i (by omega) h0]
      simp only [List.length_append, sb_len, List.length_cons, List.length_nil]
      omega
theorem sumS_le (S : List ByteArray) : ∀ i, i ≤ S.length → sumS (S.take i) ≤ sumS S := by
  intro i hi
  have key : ∀ (a b : List ByteArray), sumS (a ++ b) = sumS a + sumS b := by
    intro a b
    induction a with
    | nil => simp [sumS]
    | cons x a ih => rw [List.cons_append, sumS, sumS, ih]; omega
  have := key (S.take i) (S.drop i)
  rw [List.take_append_drop] at this
  omega
theorem Pw_of (s : ByteArray) (h0 : 0 < s.size) (h : ∀ m, m < s.size → nPl (sa s m) = false) : Pw (sb s) := by
  refine ⟨fun e => ?_, fun x hx => ?_⟩
  · have := sb_len s
    rw [e] at this
    simp at this
    omega
  · obtain ⟨m, hm, rfl⟩ := List.getElem_of_mem hx
    rw [sb_len] at hm
    have := h m hm
    unfold sa at this
    rw [List.getD_eq_getElem?_getD, List.getElem?_eq_getElem (by rw [sb_len]; exact hm)] at this
    exact this
theorem Pw_all (S : List ByteArray) (h : ∀ k, k < S.length → Pw (sb (S.getD k default))) : ∀ s ∈ Sb S, Pw s := by
  intro s hs
  obtain ⟨x, hx, rfl⟩ := List.mem_map.1 hs
  obtain ⟨m, hm, rfl⟩ := List.getElem_of_mem hx
  have := h m hm
  simpa [hm] using this
/-- The whole line but for its end. -/
def wl (b1 b2 : Bool) (S : List ByteArray) : List Int := 32 :: 32 :: pl (sfx b1 b2) (Sb S)
theorem wl_eq (b1 b2 : Bool) (S : List ByteArray) : wl b1 b2 S = [32, 32] ++ pl [] (Sb S) ++ sfx b1 b2 := by
  rw [wl, pl_z]
  simp
theorem wl_mem (b1 b2 : Bool) (S : List ByteArray) (hb : ∀ s ∈ Sb S, Pw s) : ∀ x ∈ wl b1 b2 S, x ≠ 10 := by
  intro x hx
  rcases List.mem_cons.1 hx with rfl | hx
  · simp
  · rcases List.mem_cons.1 hx with rfl | hx
    · simp
    · exact pl_mem (sfx b1 b2) (fun x => x ≠ 10) (fun x hx => (sfx_mem b1 b2 x hx).2.1) (by simp) (by simp) (fun x hx => (nPl_ne hx).2.2.2.2.2.1) (Sb S) hb x hx
theorem wl_by (b1 b2 : Bool) (S : List ByteArray) : By (wl b1 b2 S) := by
  rw [wl_eq]
  have hS := Sb_by S
  have hr : ∀ a : List (List Int), (∀ s ∈ a, By s) → By (pr [] a) := by
    intro a
    induction a with
    | nil => intro _ x hx; cases hx
    | cons s a ih =>
      intro h
      rw [pr]
      exact (By.append (By.append (fun x hx => by simp at hx; omega) (h s (by simp)))) (ih fun t ht => h t (by simp [ht]))
  have hl : By (pl [] (Sb S)) := by
    cases hc : Sb S with
    | nil => intro x hx; cases hx
    | cons s a =>
      rw [hc] at hS
      rw [pl]
      exact (hS s (by simp)).append (hr a fun t ht => hS t (by simp [ht]))
  refine (By.append (fun x hx => by simp at hx; omega) hl).append ?_
  intro x hx
  cases b1 <;> cases b2 <;> simp [sfx] at hx <;> omega
theorem cr_last (l : List Int) : cr (l ++ [13]) = 1 := by
  unfold cr
  rw [if_pos (by simp)]
end Go.Proofs.Qxb6605687aDoor
