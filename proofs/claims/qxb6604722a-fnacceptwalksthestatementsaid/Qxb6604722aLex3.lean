/- PLAIN: the tokens. -/
import Derived.Test.Qxb6604722aLex2
namespace Go.Proofs.Qxb6604722a.Lx

/-- Blanks and comments, from p on: where an unclosed comment began (if one did), and the place behind. -/
def skipF (s : ByteArray) : Nat → Nat → Option Nat × Nat
  | 0, p => (none, p)
  | n + 1, p =>
    if p < s.size then
      if blkB (bAt s p) = true then skipF s n (p + 1)
      else if pre s p [45, 45] = true then (if idx s p 10 < 0 then skipF s n s.size else skipF s n (p + (idx s p 10).toNat + 1))
      else if pre s p [47, 42] = true then
        (if (blockF s s.size 0 p).1 = true then skipF s n (blockF s s.size 0 p).2 else (some p, (blockF s s.size 0 p).2))
      else (none, p)
    else (none, p)
theorem skipF_end (s : ByteArray) (n p : Nat) (h : ¬ p < s.size) : skipF s n p = (none, p) := by
  cases n with
  | zero => rfl
  | succ n => rw [skipF, if_neg h]
theorem skipF_blank (s : ByteArray) (n p : Nat) (h : p < s.size) (h1 : blkB (bAt s p) = true) : skipF s (n + 1) p = skipF s n (p + 1) := by
  rw [skipF, if_pos h, if_pos h1]
theorem skipF_line0 (s : ByteArray) (n p : Nat) (h : p < s.size) (h1 : blkB (bAt s p) = false) (h2 : pre s p [45, 45] = true) (h3 : idx s p 10 < 0) : skipF s (n + 1) p = skipF s n s.size := by
  rw [skipF, if_pos h, if_neg (by simp [h1]), if_pos h2, if_pos h3]
theorem skipF_line1 (s : ByteArray) (n p : Nat) (h : p < s.size) (h1 : blkB (bAt s p) = false) (h2 : pre s p [45, 45] = true) (h3 : ¬ idx s p 10 < 0) : skipF s (n + 1) p = skipF s n (p + (idx s p 10).toNat + 1) := by
  rw [skipF, if_pos h, if_neg (by simp [h1]), if_pos h2, if_neg h3]
theorem skipF_block (s : ByteArray) (n p : Nat) (h : p < s.size) (h1 : blkB (bAt s p) = false) (h2 : pre s p [45, 45] = false) (h3 : pre s p [47, 42] = true) (h4 : (blockF s s.size 0 p).1 = true) :
    skipF s (n + 1) p = skipF s n (blockF s s.size 0 p).2 := by
  rw [skipF, if_pos h, if_neg (by simp [h1]), if_neg (by simp [h2]), if_pos h3, if_pos h4]
theorem skipF_err (s : ByteArray) (n p : Nat) (h : p < s.size) (h1 : blkB (bAt s p) = false) (h2 : pre s p [45, 45] = false) (h3 : pre s p [47, 42] = true) (h4 : (blockF s s.size 0 p).1 = false) :
    skipF s (n + 1) p = (some p, (blockF s s.size 0 p).2) := by
  rw [skipF, if_pos h, if_neg (by simp [h1]), if_neg (by simp [h2]), if_pos h3, if_neg (by simp [h4])]
theorem skipF_out (s : ByteArray) (n p : Nat) (h : p < s.size) (h1 : blkB (bAt s p) = false) (h2 : pre s p [45, 45] = false) (h3 : pre s p [47, 42] = false) : skipF s (n + 1) p = (none, p) := by
  rw [skipF, if_pos h, if_neg (by simp [h1]), if_neg (by simp [h2]), if_neg (by simp [h3])]
theorem skipF_bd (s : ByteArray) : ∀ n p, p ≤ s.size → p ≤ (skipF s n p).2 ∧ (skipF s n p).2 ≤ s.size ∧ (∀ q, (skipF s n p).1 = some q → p ≤ q ∧ q < (skipF s n p).2) := by
  intro n
  induction n with
  | zero => intro p h; exact ⟨Nat.le_refl _, h, fun q e => by cases e⟩
  | succ n ih =>
    intro p h
    by_cases hp : p < s.size
    · cases h1 : blkB (bAt s p) with
      | true =>
        rw [skipF_blank s n p hp h1]
        have := ih (p + 1) (by omega)
        exact ⟨by omega, this.2.1, fun q e => by have := this.2.2 q e; omega⟩
      | false =>
        cases h2 : pre s p [45, 45] with
        | true =>
          by_cases h3 : idx s p 10 < 0
          · rw [skipF_line0 s n p hp h1 h2 h3]
            have := ih s.size (by omega)
            exact ⟨by omega, this.2.1, fun q e => by have := this.2.2 q e; omega⟩
          · rw [skipF_line1 s n p hp h1 h2 h3]
            have hb := idx_bd s p 10
            have hb2 := hb.2 (by omega)
            have := ih (p + (idx s p 10).toNat + 1) (by omega)
            exact ⟨by omega, this.2.1, fun q e => by have := this.2.2 q e; omega⟩
        | false =>
          cases h3 : pre s p [47, 42] with
          | true =>
            obtain ⟨k, hk⟩ : ∃ k, s.size = k + 1 := ⟨s.size - 1, by omega⟩
            have hg : p < (blockF s s.size 0 p).2 := by rw [hk]; exact blockF_gt s k 0 p hp h3
            have hb := blockF_bd s s.size 0 p h
            cases h4 : (blockF s s.size 0 p).1 with
            | true =>
              rw [skipF_block s n p hp h1 h2 h3 h4]
              have := ih _ hb.2
              exact ⟨by omega, this.2.1, fun q e => by have := this.2.2 q e; omega⟩
            | false =>
              rw [skipF_err s n p hp h1 h2 h3 h4]
              exact ⟨by show p ≤ (blockF s s.size 0 p).2; omega, hb.2, fun q e => by cases e; exact ⟨Nat.le_refl _, hg⟩⟩
          | false =>
            rw [skipF_out s n p hp h1 h2 h3]
            exact ⟨Nat.le_refl _, h, fun q e => by cases e⟩
    · rw [skipF_end s _ p hp]
      exact ⟨Nat.le_refl _, h, fun q e => by cases e⟩

structure Tok where
  kind : Int
  pos : Nat
  text : ByteArray
  val : ByteArray
  n : Nat

def low8 (c : UInt8) : UInt8 := if 65 ≤ c ∧ c ≤ 90 then c + 32 else c
def foldB (s : ByteArray) : ByteArray := ⟨(s.data.toList.map low8).toArray⟩

/-- A quoted text, from p on, what is gathered so far in acc: what it says, and the place behind. -/
def quF (s : ByteArray) (q : UInt8) : Nat → Nat → List UInt8 → Option (List UInt8 × Nat)
  | 0, _, _ => none
  | n + 1, p, acc =>
    if idx s p q < 0 then none
    else if s.size ≤ p + (idx s p q).toNat + 1 ∨ ¬ bAt s (p + (idx s p q).toNat + 1) = q.toNat then
      some (acc ++ (s.extract p (p + (idx s p q).toNat)).data.toList, p + (idx s p q).toNat + 1)
    else quF s q n (p + (idx s p q).toNat + 2) (acc ++ (s.extract p (p + (idx s p q).toNat)).data.toList ++ [q])
theorem quF_none (s : ByteArray) (q : UInt8) (n p : Nat) (acc : List UInt8) (h : idx s p q < 0) : quF s q n p acc = none := by
  cases n with
  | zero => rfl
  | succ n => rw [quF, if_pos h]
theorem quF_some (s : ByteArray) (q : UInt8) (n p : Nat) (acc : List UInt8) (h : ¬ idx s p q < 0) (h1 : s.size ≤ p + (idx s p q).toNat + 1 ∨ ¬ bAt s (p + (idx s p q).toNat + 1) = q.toNat) :
    quF s q (n + 1) p acc = some (acc ++ (s.extract p (p + (idx s p q).toNat)).data.toList, p + (idx s p q).toNat + 1) := by
  rw [quF, if_neg h, if_pos h1]
theorem quF_on (s : ByteArray) (q : UInt8) (n p : Nat) (acc : List UInt8) (h : ¬ idx s p q < 0) (h1 : ¬ (s.size ≤ p + (idx s p q).toNat + 1 ∨ ¬ bAt s (p + (idx s p q).toNat + 1) = q.toNat)) :
    quF s q (n + 1) p acc = quF s q n (p + (idx s p q).toNat + 2) (acc ++ (s.extract p (p + (idx s p q).toNat)).data.toList ++ [q]) := by
  rw [quF, if_neg h, if_neg h1]
theorem quF_bd (s : ByteArray) (q : UInt8) : ∀ n p acc l r, p ≤ s.size → quF s q n p acc = some (l, r) → p < r ∧ r ≤ s.size ∧ l.length + p + 1 ≤ acc.length + r := by
  intro n
  induction n with
  | zero => intro p acc l r h e; cases e
  | succ n ih =>
    intro p acc l r h e
    by_cases h0 : idx s p q < 0
    · rw [quF_none s q _ p acc h0] at e; cases e
    · have hb := (idx_bd s p q).2 (by omega)
      have hl := ext_len s p (p + (idx s p q).toNat) (by omega)
      by_cases h1 : s.size ≤ p + (idx s p q).toNat + 1 ∨ ¬ bAt s (p + (idx s p q).toNat + 1) = q.toNat
      · rw [quF_some s q n p acc h0 h1] at e
        simp only [Option.some.injEq, Prod.mk.injEq] at e
        obtain ⟨e1, e2⟩ := e
        subst e1 e2
        rw [List.length_append, hl]
        omega
      · rw [quF_on s q n p acc h0 h1] at e
        have := ih _ _ l r (by omega) e
        rw [List.length_append, List.length_append, hl] at this
        simp at this
        omega

def quTok (s : ByteArray) (p : Nat) (kind : Int) (q : UInt8) (msg : ByteArray) : Tok × Nat :=
  match quF s q s.size (p + 1) [] with
  | none => ({ kind := 11, pos := 0, text := s.extract p s.size, val := msg, n := 0 }, s.size)
  | some (l, r) => ({ kind := kind, pos := 0, text := s.extract p r, val := ⟨l.toArray⟩, n := 0 }, r)

def numTok (s : ByteArray) (p : Nat) : Tok × Nat :=
  ({ kind := if (scanNum (s.extract p s.size)).2 = true then 4 else 5, pos := 0, text := s.extract p (p + (scanNum (s.extract p s.size)).1), val := s.extract p (p + (scanNum (s.extract p s.size)).1), n := 0 }, p + (scanNum (s.extract p s.size)).1)

def opEnd (s : ByteArray) (mk : Bool) : Nat → Nat → Nat
  | 0, i => i
  | n + 1, i => if i < s.size ∧ opB mk (bAt s i) = true ∧ com s i = false then opEnd s mk n (i + 1) else i
def opTrim (s : ByteArray) (p : Nat) : Nat → Nat → Nat
  | 0, i => i
  | n + 1, i => if p + 1 < i ∧ (bAt s (i - 1) = 43 ∨ bAt s (i - 1) = 45) then opTrim s p n (i - 1) else i
def special : List UInt8 := [126, 33, 64, 35, 37, 94, 38, 124, 96, 63]
def opStop (s : ByteArray) (mk : Bool) (p : Nat) : Nat :=
  if Lib.containsAny (s.extract p (opEnd s mk s.size (p + 1))).data.toList special = true then opEnd s mk s.size (p + 1) else opTrim s p s.size (opEnd s mk s.size (p + 1))

theorem opEnd_step (s : ByteArray) (mk : Bool) (n i : Nat) (h : i < s.size) (h1 : opB mk (bAt s i) = true) (h2 : com s i = false) : opEnd s mk (n + 1) i = opEnd s mk n (i + 1) := by
  rw [opEnd, if_pos ⟨h, h1, h2⟩]
theorem opEnd_stop (s : ByteArray) (mk : Bool) (n i : Nat) (h : ¬ (i < s.size ∧ opB mk (bAt s i) = true ∧ com s i = false)) : opEnd s mk n i = i := by
  cases n with
  | zero => rfl
  | succ n => rw [opEnd, if_neg h]
theorem opEnd_bd (s : ByteArray) (mk : Bool) : ∀ n i, i ≤ s.size → i ≤ opEnd s mk n i ∧ opEnd s mk n i ≤ s.size := by
  intro n
  induction n with
  | zero => intro i h; exact ⟨Nat.le_refl _, h⟩
  | succ n ih =>
    intro i h
    unfold opEnd
    split
    · have := ih (i + 1) (by omega); omega
    · exact ⟨Nat.le_refl _, h⟩
theorem opTrim_step (s : ByteArray) (p n i : Nat) (h : p + 1 < i) (h1 : bAt s (i - 1) = 43 ∨ bAt s (i - 1) = 45) : opTrim s p (n + 1) i = opTrim s p n (i - 1) := by
  rw [opTrim, if_pos ⟨h, h1⟩]
theorem opTrim_stop (s : ByteArray) (p n i : Nat) (h : ¬ (p + 1 < i ∧ (bAt s (i - 1) = 43 ∨ bAt s (i - 1) = 45))) : opTrim s p n i = i := by
  cases n with
  | zero => rfl
  | succ n => rw [opTrim, if_neg h]
theorem opTrim_bd (s : ByteArray) (p : Nat) : ∀ n i, p < i → p < opTrim s p n i ∧ opTrim s p n i ≤ i := by
  intro n
  induction n with
  | zero => intro i h; exact ⟨h, Nat.le_refl _⟩
  | succ n ih =>
    intro i h
    unfold opTrim
    split
    · have := ih (i - 1) (by omega); omega
    · exact ⟨h, Nat.le_refl _⟩
theorem opStop_bd (s : ByteArray) (mk : Bool) (p : Nat) (h : p < s.size) : p < opStop s mk p ∧ opStop s mk p ≤ s.size := by
  have h1 := opEnd_bd s mk s.size (p + 1) (by omega)
  unfold opStop
  split
  · omega
  · have := opTrim_bd s p s.size (opEnd s mk s.size (p + 1)) (by omega)
    omega

def bs (l : List UInt8) : ByteArray := ⟨l.toArray⟩
def msgStr : ByteArray := ⟨#[117, 110, 116, 101, 114, 109, 105, 110, 97, 116, 101, 100, 32, 113, 117, 111, 116, 101, 100, 32, 115, 116, 114, 105, 110, 103]⟩
def msgIdent : ByteArray := ⟨#[117, 110, 116, 101, 114, 109, 105, 110, 97, 116, 101, 100, 32, 113, 117, 111, 116, 101, 100, 32, 105, 100, 101, 110, 116, 105, 102, 105, 101, 114]⟩
def msgZero : ByteArray := ⟨#[122, 101, 114, 111, 45, 108, 101, 110, 103, 116, 104, 32, 113, 117, 111, 116, 101, 100, 32, 105, 100, 101, 110, 116, 105, 102, 105, 101, 114]⟩
def msgCom : ByteArray := ⟨#[117, 110, 116, 101, 114, 109, 105, 110, 97, 116, 101, 100, 32, 47, 42, 32, 99, 111, 109, 109, 101, 110, 116]⟩

/-- Does a number begin here? -/
def numB (s : ByteArray) (p : Nat) : Bool := digB (bAt s p) || (bAt s p == 46 && decide (p + 1 < s.size) && digB (bAt s (p + 1)))
def wordEnd (s : ByteArray) (p : Nat) : Nat := scan wptB s s.size p

/-- The token that begins at p (its place left 0), the place behind, how many markers are read. -/
def readF (s : ByteArray) (mk : Bool) (p md : Nat) : Tok × Nat × Nat :=
  if ¬ p < s.size then ({ kind := 0, pos := 0, text := bs [], val := bs [], n := 0 }, p, md)
  else if wstB (bAt s p) = true then ({ kind := 1, pos := 0, text := s.extract p (wordEnd s p), val := foldB (s.extract p (wordEnd s p)), n := 0 }, wordEnd s p, md)
  else if numB s p = true then ((numTok s p).1, (numTok s p).2, md)
  else if bAt s p = 39 then ((quTok s p 3 39 msgStr).1, (quTok s p 3 39 msgStr).2, md)
  else if bAt s p = 34 then
    (if (quTok s p 2 34 msgIdent).1.kind = 2 ∧ (quTok s p 2 34 msgIdent).1.val.size = 0 then ({ kind := 11, pos := 0, text := (quTok s p 2 34 msgIdent).1.text, val := msgZero, n := 0 }, (quTok s p 2 34 msgIdent).2, md)
     else ((quTok s p 2 34 msgIdent).1, (quTok s p 2 34 msgIdent).2, md))
  else if bAt s p = 59 then ({ kind := 10, pos := 0, text := bs [59], val := bs [], n := 0 }, p + 1, md)
  else if bAt s p = 58 ∧ pre s p [58, 58] = true then ({ kind := 8, pos := 0, text := bs [58, 58], val := bs [], n := 0 }, p + 2, md)
  else if bAt s p = 63 ∧ mk = true then ({ kind := 9, pos := 0, text := bs [63], val := bs [], n := md }, p + 1, md + 1)
  else if opB mk (bAt s p) = true then ({ kind := 6, pos := 0, text := s.extract p (opStop s mk p), val := s.extract p (opStop s mk p), n := 0 }, opStop s mk p, md)
  else ({ kind := 7, pos := 0, text := s.extract p (p + 1), val := s.extract p (p + 1), n := 0 }, p + 1, md)

def nextF (s : ByteArray) (mk : Bool) (p md : Nat) : Tok × Nat × Nat :=
  match (skipF s s.size p).1 with
  | some st => ({ kind := 11, pos := st, text := bs [47, 42], val := msgCom, n := 0 }, (skipF s s.size p).2, md)
  | none => ({ (readF s mk (skipF s s.size p).2 md).1 with pos := (skipF s s.size p).2 }, (readF s mk (skipF s s.size p).2 md).2)

end Go.Proofs.Qxb6604722a.Lx
