/- The quoted line, plainly: it splits into the list again. -/
import Derived.Test.Qxb6605687aDoorP7
import Derived.Test.Qxb6605687aDoorH2
namespace Go.Proofs.Qxb6605687aDoor
set_option linter.unusedSimpArgs false
set_option linter.unusedVariables false

def isEs (c : Int) : Bool := decide (c < 32) || decide (127 ≤ c) || c == 34 || c == 92
/-- One byte, written. -/
def eb (c : Int) : List Int := if isEs c = true then [92, 120, hxd (c / 16), hxd (c % 16)] else [c]
def ebs (s : List Int) : List Int := s.flatMap eb
theorem ebs_cons (c : Int) (s : List Int) : ebs (c :: s) = eb c ++ ebs s := by simp [ebs]
theorem ebs_nil : ebs [] = [] := rfl
theorem ebs_append (a b : List Int) : ebs (a ++ b) = ebs a ++ ebs b := by simp [ebs]
def ew (s : List Int) : List Int := 34 :: (ebs s ++ [34])
/-- The words behind the first, each behind a blank. -/
def qr : List (List Int) → List Int
  | [] => []
  | s :: S => 32 :: (ew s ++ qr S)
def ql : List (List Int) → List Int
  | [] => []
  | s :: S => ew s ++ qr S

theorem hxd_rng (d : Int) (h : 0 ≤ d ∧ d ≤ 15) : 48 ≤ hxd d ∧ hxd d ≤ 102 := by unfold hxd; split <;> omega
theorem isHx_hxd (d : Int) (h : 0 ≤ d ∧ d ≤ 15) : isHx (hxd d) = true := by
  unfold isHx hxd
  split <;> simp <;> omega
theorem uhx_hxd (d : Int) (h : 0 ≤ d ∧ d ≤ 15) : uhx (hxd d) = d := by
  unfold uhx hxd
  split <;> split <;> (try split) <;> omega

theorem eb_mem (c : Int) (hc : 0 ≤ c ∧ c ≤ 255) : ∀ x ∈ eb c, 32 ≤ x ∧ x ≤ 126 := by
  intro x hx
  unfold eb at hx
  have h1 := hxd_rng (c / 16) (by omega)
  have h2 := hxd_rng (c % 16) (by omega)
  split at hx
  · simp at hx
    rcases hx with rfl | rfl | rfl | rfl <;> omega
  · rename_i h
    simp [isEs] at h
    simp at hx
    omega
theorem ebs_mem (s : List Int) (hs : By s) : ∀ x ∈ ebs s, 32 ≤ x ∧ x ≤ 126 := by
  intro x hx
  obtain ⟨c, hc, hx⟩ := List.mem_flatMap.1 hx
  exact eb_mem c (hs c hc) x hx
theorem ew_mem (s : List Int) (hs : By s) : ∀ x ∈ ew s, 32 ≤ x ∧ x ≤ 126 := by
  intro x hx
  simp [ew] at hx
  rcases hx with rfl | h | rfl
  · omega
  · exact ebs_mem s hs x h
  · omega
theorem qr_mem : ∀ (S : List (List Int)), (∀ s ∈ S, By s) → ∀ x ∈ qr S, 32 ≤ x ∧ x ≤ 126
  | [], _, x, hx => by cases hx
  | s :: S, h, x, hx => by
    rw [qr] at hx
    rcases List.mem_cons.1 hx with rfl | hx
    · omega
    · rcases List.mem_append.1 hx with hx | hx
      · exact ew_mem s (h s (by simp)) x hx
      · exact qr_mem S (fun s hs => h s (by simp [hs])) x hx
theorem ql_mem (S : List (List Int)) (h : ∀ s ∈ S, By s) : ∀ x ∈ ql S, 32 ≤ x ∧ x ≤ 126 := by
  cases S with
  | nil => intro x hx; cases hx
  | cons s S =>
    intro x hx
    rw [ql] at hx
    rcases List.mem_append.1 hx with hx | hx
    · exact ew_mem s (h s (by simp)) x hx
    · exact qr_mem S (fun s hs => h s (by simp [hs])) x hx

theorem fi_none : ∀ (l : List Int) (c : Int), (∀ x ∈ l, x ≠ c) → fi l c = none
  | [], _, _ => rfl
  | x :: l, c, h => by
    rw [fi, if_neg (h x (by simp)), fi_none l c (fun y hy => h y (by simp [hy]))]
    rfl

/-- The word's inside. -/
theorem wd_ebs : ∀ (s : List Int) (g : Nat) (r A : List Int), By s → (r = [] ∨ isSp (r.getD 0 0) = true) → s.length < g → wd g (ebs s ++ 34 :: r) 34 A = (some (r, 0), A ++ s)
  | [], 0, r, A, _, hr, hg => by simp at hg
  | [], g + 1, r, A, _, hr, hg => by
    rw [ebs_nil, List.nil_append, wd_cons, if_neg (by simp), if_neg (by simp), if_pos rfl, if_pos hr, List.append_nil]
  | c :: s, 0, r, A, hb, hr, hg => by simp at hg
  | c :: s, g + 1, r, A, hb, hr, hg => by
    have ih := wd_ebs s g r (A ++ [c]) (fun x hx => hb x (by simp [hx])) hr (by simp at hg; omega)
    have hc := hb c (by simp)
    rw [ebs_cons]
    unfold eb
    by_cases he : isEs c = true
    · rw [if_pos he]
      simp only [List.cons_append, List.nil_append]
      have hx : hexAt 34 92 (120 :: hxd (c / 16) :: hxd (c % 16) :: (ebs s ++ 34 :: r)) = true := by
        simp [hexAt, isHx_hxd (c / 16) (by omega), isHx_hxd (c % 16) (by omega)]
      rw [wd_cons, if_neg (by simp), if_neg (by simp), if_neg (by simp), if_pos hx]
      simp only [List.drop_succ_cons, List.drop_zero, List.getD_cons_succ, List.getD_cons_zero]
      rw [uhx_hxd _ (by omega), uhx_hxd _ (by omega), show 16 * (c / 16) + c % 16 = c by omega, ih, List.append_assoc]
      rfl
    · rw [if_neg he]
      simp only [List.cons_append, List.nil_append]
      simp [isEs] at he
      rw [wd_cons, if_neg (by simp), if_neg (by simp), if_neg (by omega), if_neg (by simp [hexAt]; intro h1; omega), if_neg (by intro h1; omega), if_neg (by simp), ih, List.append_assoc]
      rfl

theorem ebs_len (s : List Int) : s.length ≤ (ebs s).length := by
  induction s with
  | nil => simp
  | cons c s ih =>
    rw [ebs_cons, List.length_append]
    have : 1 ≤ (eb c).length := by unfold eb; split <;> simp
    simp
    omega
theorem qr_start (S : List (List Int)) : qr S = [] ∨ isSp ((qr S).getD 0 0) = true := by
  cases S with
  | nil => exact .inl rfl
  | cons s S => exact .inr (by simp [qr, isSp])
/-- A word in quotes, then the rest. -/
theorem wd_ew (s r A : List Int) (c : Int) (t : List Int) (hb : By s) (hr : r = [] ∨ isSp (r.getD 0 0) = true) (he : ew s ++ r = c :: t) : wd (t.length + 2) (c :: t) 0 A = (some (r, 0), A ++ s) := by
  simp only [ew, List.cons_append, List.append_assoc, List.nil_append, List.cons.injEq] at he
  obtain ⟨rfl, rfl⟩ := he
  rw [wd_cons, if_neg (by simp [isBr]), if_pos (by simp)]
  refine wd_ebs s _ r A hb hr ?_
  have := ebs_len s
  simp
  omega
theorem skp_ew (s r : List Int) : skp (ew s ++ r) = ew s ++ r := by
  simp [ew, skp, isSp]
theorem spl_qr : ∀ (S : List (List Int)) (g : Nat) (A : List Int) (ags : List (List Int)), (∀ s ∈ S, By s) → S.length < g → spl g (qr S) A ags = (true, A ++ S.flatten, ags ++ S)
  | [], 0, _, _, _, hg => by simp at hg
  | [], g + 1, A, ags, _, hg => by rw [spl_nil g _ A ags rfl]; simp
  | s :: S, 0, _, _, _, hg => by simp at hg
  | s :: S, g + 1, A, ags, hb, hg => by
    have ih := spl_qr S g (A ++ s) (ags ++ [s]) (fun x hx => hb x (by simp [hx])) (by simp at hg; omega)
    have hk : skp (qr (s :: S)) = ew s ++ qr S := by
      rw [qr, skp, if_pos (by simp [isSp]), skp_ew]
    obtain ⟨c, t, he⟩ : ∃ c t, ew s ++ qr S = c :: t := ⟨_, _, rfl⟩
    rw [spl_word g _ A (A ++ s) ags c t (qr S) (hk.trans he) (wd_ew s (qr S) A c t (hb s (by simp)) (qr_start S) he), List.drop_left, ih]
    simp
theorem spl_ql (S : List (List Int)) (g : Nat) (A : List Int) (ags : List (List Int)) (hb : ∀ s ∈ S, By s) (hg : S.length < g) : spl g (ql S) A ags = (true, A ++ S.flatten, ags ++ S) := by
  cases S with
  | nil =>
    cases g with
    | zero => simp at hg
    | succ g => rw [spl_nil g _ A ags rfl]; simp
  | cons s S =>
    cases g with
    | zero => simp at hg
    | succ g =>
      obtain ⟨c, t, he⟩ : ∃ c t, ew s ++ qr S = c :: t := ⟨_, _, rfl⟩
      rw [ql, spl_word g _ A (A ++ s) ags c t (qr S) ((skp_ew s (qr S)).trans he) (wd_ew s (qr S) A c t (hb s (by simp)) (qr_start S) he), List.drop_left,
        spl_qr S g (A ++ s) (ags ++ [s]) (fun x hx => hb x (by simp [hx])) (by simp at hg; omega)]
      simp
theorem qr_len : ∀ S : List (List Int), S.length ≤ (qr S).length
  | [] => Nat.zero_le _
  | s :: S => by
    have := qr_len S
    simp [qr, ew]
    omega
theorem ql_len (S : List (List Int)) : S.length ≤ (ql S).length := by
  cases S with
  | nil => exact Nat.zero_le _
  | cons s S =>
    have := qr_len S
    simp [ql, ew]
    omega
theorem toNul_none (l : List Int) (h : ∀ x ∈ l, x ≠ 0) : toNul l = l := by
  unfold toNul
  rw [fi_none l 0 h]
theorem split_ql (S : List (List Int)) (hb : ∀ s ∈ S, By s) : split (ql S) [] [] = (true, S.flatten, S) := by
  have hm := ql_mem S hb
  have hl := ql_len S
  unfold split
  rw [toNul_none _ (fun x hx => by have := hm x hx; omega), spl_ql S _ [] [] hb (by omega)]
  simp
theorem cr_no (l : List Int) (h : ∀ x ∈ l, x ≠ 13) : cr l = 0 := by
  unfold cr
  rw [if_neg]
  intro e
  exact h 13 (List.mem_of_getLast? e) rfl
theorem rl_lf (l : List Int) (h : ∀ x ∈ l, x ≠ 10) : rl (l ++ [10]) = if l.length ≤ 65536 then (l.length, 0) else (l.length, 1) := by
  unfold rl
  rw [fi_append, fi_none l 10 h]
  simp [fi]
end Go.Proofs.Qxb6605687aDoor
