/- What splitInline computes, plainly. -/
import Derived.Test.Qxb6605687aDoorW3
namespace Go.Proofs.Qxb6605687aDoor
set_option linter.unusedSimpArgs false
set_option linter.unusedVariables false

def isSp (c : Int) : Bool := c == 32 || (decide (9 ≤ c) && decide (c ≤ 13))
def isHx (c : Int) : Bool := (decide (48 ≤ c) && decide (c ≤ 57)) || (decide (97 ≤ c) && decide (c ≤ 102)) || (decide (65 ≤ c) && decide (c ≤ 70))
def uhx (c : Int) : Int := if c ≤ 57 then c - 48 else if c ≤ 70 then c - 55 else c - 87
def ues (c : Int) : Int := if c = 110 then 10 else if c = 114 then 13 else if c = 116 then 9 else if c = 98 then 8 else if c = 97 then 7 else c
/-- A blank that ends a word. -/
def isBr (c : Int) : Bool := c == 32 || c == 9 || c == 13 || c == 10

/-- Four bytes that are '\xHH'. -/
def hexAt (q c : Int) (r : List Int) : Bool :=
  q == 34 && c == 92 && decide (3 ≤ r.length) && r.getD 0 0 == 120 && isHx (r.getD 1 0) && isHx (r.getD 2 0)

/-- The loop over a word: what is left of the line and the quote that is open (none: a closing quote is glued to what follows), and the arena. -/
def wd : Nat → List Int → Int → List Int → Option (List Int × Int) × List Int
  | 0, l, q, A => (some (l, q), A)
  | _ + 1, [], q, A => (some ([], q), A)
  | g + 1, c :: r, q, A =>
    if q = 0 ∧ isBr c = true then (some (c :: r, q), A)
    else if q = 0 ∧ (c = 34 ∨ c = 39) then wd g r c A
    else if c = q then (if r = [] ∨ isSp (r.getD 0 0) = true then (some (r, 0), A) else (none, A))
    else if hexAt q c r = true then wd g (r.drop 3) q (A ++ [16 * uhx (r.getD 1 0) + uhx (r.getD 2 0)])
    else if q = 34 ∧ c = 92 ∧ r ≠ [] then wd g (r.drop 1) q (A ++ [ues (r.getD 0 0)])
    else if q = 39 ∧ c = 92 ∧ r ≠ [] ∧ r.getD 0 0 = 39 then wd g (r.drop 1) q (A ++ [39])
    else wd g r q (A ++ [c])
theorem wd_cons (g : Nat) (c : Int) (r : List Int) (q : Int) (A : List Int) : wd (g + 1) (c :: r) q A =
    if q = 0 ∧ isBr c = true then (some (c :: r, q), A)
    else if q = 0 ∧ (c = 34 ∨ c = 39) then wd g r c A
    else if c = q then (if r = [] ∨ isSp (r.getD 0 0) = true then (some (r, 0), A) else (none, A))
    else if hexAt q c r = true then wd g (r.drop 3) q (A ++ [16 * uhx (r.getD 1 0) + uhx (r.getD 2 0)])
    else if q = 34 ∧ c = 92 ∧ r ≠ [] then wd g (r.drop 1) q (A ++ [ues (r.getD 0 0)])
    else if q = 39 ∧ c = 92 ∧ r ≠ [] ∧ r.getD 0 0 = 39 then wd g (r.drop 1) q (A ++ [39])
    else wd g r q (A ++ [c]) := rfl

def skp : List Int → List Int
  | [] => []
  | c :: r => if isSp c = true then skp r else c :: r

/-- The whole: is the line well formed; the arena; the arguments. -/
def spl : Nat → List Int → List Int → List (List Int) → Bool × List Int × List (List Int)
  | 0, _, A, ags => (true, A, ags)
  | g + 1, l, A, ags =>
    match skp l with
    | [] => (true, A, ags)
    | c :: r =>
      match wd (r.length + 2) (c :: r) 0 A with
      | (none, A') => (false, A', ags)
      | (some (l', q), A') => if q = 0 then spl g l' A' (ags ++ [A'.drop A.length]) else (false, A', ags)

/-- The line up to a NUL. -/
def toNul (l : List Int) : List Int := match fi l 0 with | some k => l.take k | none => l
def split (l : List Int) (A : List Int) (ags : List (List Int)) : Bool × List Int × List (List Int) := spl ((toNul l).length + 1) (toNul l) A ags

theorem skp_len : ∀ l, (skp l).length ≤ l.length
  | [] => Nat.le_refl _
  | c :: r => by
    rw [skp]
    have := skp_len r
    split <;> simp <;> omega
theorem wd_len : ∀ (g : Nat) (l : List Int) (q : Int) (A : List Int) (l' : List Int) (q' : Int) (A' : List Int), wd g l q A = (some (l', q'), A') → l'.length ≤ l.length
  | 0, l, q, A, l', q', A', h => by rw [wd] at h; simp at h; rw [h.1.1]; exact Nat.le_refl _
  | g + 1, [], q, A, l', q', A', h => by rw [wd] at h; simp at h; rw [← h.1.1]; simp
  | g + 1, c :: r, q, A, l', q', A', h => by
    rw [wd_cons] at h
    split at h
    · simp at h; rw [← h.1.1]; exact Nat.le_refl _
    · split at h
      · have := wd_len g r _ _ _ _ _ h; simp; omega
      · split at h
        · split at h
          · simp at h; rw [h.1.1]; simp
          · simp at h
        · split at h
          · have := wd_len g _ _ _ _ _ _ h; simp at this ⊢; omega
          · split at h
            · have := wd_len g _ _ _ _ _ _ h; simp at this ⊢; omega
            · split at h
              · have := wd_len g _ _ _ _ _ _ h; simp at this ⊢; omega
              · have := wd_len g _ _ _ _ _ _ h; simp; omega
theorem wd_lt (g : Nat) (c : Int) (r : List Int) (A : List Int) (l' : List Int) (q' : Int) (A' : List Int) (hb : isBr c = false) (h : wd (g + 1) (c :: r) 0 A = (some (l', q'), A')) : l'.length ≤ r.length := by
  rw [wd_cons] at h
  split at h
  · rename_i h1; rw [hb] at h1; simp at h1
  · split at h
    · exact wd_len g r _ _ _ _ _ h
    · split at h
      · split at h
        · simp at h; rw [h.1.1]; exact Nat.le_refl _
        · simp at h
      · split at h
        · rename_i h1; simp [hexAt] at h1
        · split at h
          · rename_i h1; simp at h1
          · split at h
            · rename_i h1; simp at h1
            · exact wd_len g r _ _ _ _ _ h
theorem isBr_of_isSp (c : Int) (h : isSp c = false) : isBr c = false := by
  simp only [isSp, isBr, Bool.or_eq_false_iff, Bool.and_eq_false_iff, beq_eq_false_iff_ne, decide_eq_false_iff_not] at h ⊢
  omega
end Go.Proofs.Qxb6605687aDoor
