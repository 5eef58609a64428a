/- The quoted line, built word by word. -/
import Derived.Test.Qxb6605687aDoorP8
namespace Go.Proofs.Qxb6605687aDoor
set_option linter.unusedSimpArgs false
set_option linter.unusedVariables false

def Sb (S : List ByteArray) : List (List Int) := S.map sb
theorem Sb_len (S : List ByteArray) : (Sb S).length = S.length := by simp [Sb]
theorem Sb_get (S : List ByteArray) (i : Nat) (h : i < S.length) : (Sb S)[i]? = some (sb (S.getD i default)) := by
  simp [Sb, h]
theorem Sb_by (S : List ByteArray) : ∀ s ∈ Sb S, By s := fun s hs => by
  obtain ⟨x, _, rfl⟩ := List.mem_map.1 hs
  exact sb_by x
theorem Sb_take (S : List ByteArray) (i : Nat) (h : i < S.length) : (Sb S).take (i + 1) = (Sb S).take i ++ [sb (S.getD i default)] := by
  rw [List.take_add_one, Sb_get S i h]
  rfl
theorem qr_snoc : ∀ (a : List (List Int)) (s : List Int), qr (a ++ [s]) = qr a ++ 32 :: ew s
  | [], s => by simp [qr]
  | x :: a, s => by
    rw [List.cons_append, qr, qr_snoc a s, qr]
    simp
theorem ql_snoc (a : List (List Int)) (s : List Int) : ql (a ++ [s]) = ql a ++ ((if a = [] then [] else [32]) ++ ew s) := by
  cases a with
  | nil => simp [ql, qr]
  | cons x a =>
    rw [List.cons_append, ql, qr_snoc, ql]
    simp
theorem ql_take0 (S : List ByteArray) (h : 0 < S.length) : ql ((Sb S).take (0 + 1)) = ql ((Sb S).take 0) ++ ew (sb (S.getD 0 default)) := by
  rw [Sb_take S 0 h, ql_snoc]
  simp
theorem ql_takeS (S : List ByteArray) (i : Nat) (h : i < S.length) (h0 : 0 < i) : ql ((Sb S).take (i + 1)) = ql ((Sb S).take i) ++ 32 :: ew (sb (S.getD i default)) := by
  rw [Sb_take S i h, ql_snoc, if_neg]
  · rfl
  · intro e
    have := congrArg List.length e
    rw [List.length_take, Sb_len, List.length_nil] at this
    omega
theorem ew_len (s : List Int) : (ew s).length = (ebs s).length + 2 := by simp [ew]
theorem sb_take (s : ByteArray) (j : Nat) (h : j < s.size) : (sb s).take (j + 1) = (sb s).take j ++ [sa s j] := by
  have h1 : j < (sb s).length := by rw [sb_len]; exact h
  rw [List.take_add_one, sa]
  simp [h1]
theorem ebs_take (s : ByteArray) (j : Nat) (h : j < s.size) : ebs ((sb s).take (j + 1)) = ebs ((sb s).take j) ++ eb (sa s j) := by
  rw [sb_take s j h, ebs_append]
  simp [ebs]
theorem ebs_le (s : List Int) : (ebs s).length ≤ 4 * s.length := by
  induction s with
  | nil => simp [ebs]
  | cons c s ih =>
    rw [ebs_cons, List.length_append]
    have : (eb c).length ≤ 4 := by unfold eb; split <;> simp
    simp
    omega
theorem eb_es (c : Int) (h : isEs c = true) : eb c = [92, 120, hxd (c / 16), hxd (c % 16)] := if_pos h
theorem eb_no (c : Int) (h : isEs c = false) : eb c = [c] := if_neg (by simp [h])
theorem sa_rng (s : ByteArray) (j : Nat) : 0 ≤ sa s j ∧ sa s j ≤ 255 := by
  unfold sa
  rw [List.getD_eq_getElem?_getD]
  cases h : (sb s)[j]? with
  | none => simp
  | some x => exact sb_by s x (List.mem_of_getElem? h)
theorem ql_app_le : ∀ (b a : List (List Int)), (ql a).length ≤ (ql (a ++ b)).length
  | [], a => by rw [List.append_nil]; exact Nat.le_refl _
  | s :: b, a => by
    have h1 := ql_app_le b (a ++ [s])
    rw [List.append_assoc, List.singleton_append] at h1
    have h2 := congrArg List.length (ql_snoc a s)
    rw [List.length_append] at h2
    omega
theorem ql_take_le (S : List (List Int)) (i : Nat) : (ql (S.take i)).length ≤ (ql S).length := by
  have := ql_app_le (S.drop i) (S.take i)
  rwa [List.take_append_drop] at this
theorem ebs_take_le (s : List Int) (k : Nat) : (ebs (s.take k)).length ≤ (ebs s).length := by
  have : ebs s = ebs (s.take k) ++ ebs (s.drop k) := by rw [← ebs_append, List.take_append_drop]
  rw [this, List.length_append]
  omega
end Go.Proofs.Qxb6605687aDoor
