/- PLAIN: what the lexer reads, with no Go in sight. -/
import Derived.Lib.Strings
import Derived.Lib.IndexBytes
namespace Go.Proofs.Qxb6604722a.Lx

/-- The byte at place i, as a number; 0 beyond the end. -/
def bAt (s : ByteArray) (i : Nat) : Int := if h : i < s.size then ((s[i]'h).toNat : Int) else 0
theorem bAt_eq (s : ByteArray) (i : Nat) (h : i < s.size) : bAt s i = ((s[i]'h).toNat : Int) := by simp [bAt, h]
theorem bAt_bd (s : ByteArray) (i : Nat) : 0 ≤ bAt s i ∧ bAt s i ≤ 255 := by
  unfold bAt
  split
  · rename_i h
    have := (s[i]'h).toNat_lt
    omega
  · omega

def digB (c : Int) : Bool := decide (48 ≤ c) && decide (c ≤ 57)
def wstB (c : Int) : Bool := (decide (97 ≤ c) && decide (c ≤ 122)) || (decide (65 ≤ c) && decide (c ≤ 90)) || c == 95 || decide (128 ≤ c)
def wptB (c : Int) : Bool := wstB c || digB c || c == 36

/-- From i on as far as p holds. -/
def scan (p : Int → Bool) (s : ByteArray) : Nat → Nat → Nat
  | 0, i => i
  | n + 1, i => if i < s.size ∧ p (bAt s i) = true then scan p s n (i + 1) else i

theorem scan_ge (p : Int → Bool) (s : ByteArray) : ∀ n i, i ≤ scan p s n i := by
  intro n
  induction n with
  | zero => intro i; exact Nat.le_refl _
  | succ n ih =>
    intro i
    unfold scan
    split
    · have := ih (i + 1); omega
    · omega
theorem scan_le (p : Int → Bool) (s : ByteArray) : ∀ n i, i ≤ s.size → scan p s n i ≤ s.size := by
  intro n
  induction n with
  | zero => intro i h; exact h
  | succ n ih =>
    intro i h
    unfold scan
    split
    · exact ih (i + 1) (by omega)
    · exact h
theorem scan_step (p : Int → Bool) (s : ByteArray) (m k : Nat) (x : Int) (h : k < s.size) (hx : bAt s k = x) (hp : p x = true) : scan p s (m + 1) k = scan p s m (k + 1) := by
  subst hx
  rw [scan, if_pos ⟨h, hp⟩]
theorem scan_stop (p : Int → Bool) (s : ByteArray) (n k : Nat) (x : Int) (hx : bAt s k = x) (hp : p x = false) : scan p s n k = k := by
  subst hx
  cases n with
  | zero => rfl
  | succ n => rw [scan, if_neg (fun h => by rw [hp] at h; exact absurd h.2 (by decide))]
theorem scan_end (p : Int → Bool) (s : ByteArray) (n k : Nat) (h : ¬ k < s.size) : scan p s n k = k := by
  cases n with
  | zero => rfl
  | succ n => rw [scan, if_neg (fun q => h q.1)]
def skipD (s : ByteArray) (i : Nat) : Nat := scan digB s s.size i
theorem skipD_ge (s : ByteArray) (i : Nat) : i ≤ skipD s i := scan_ge _ _ _ _
theorem skipD_le (s : ByteArray) (i : Nat) (h : i ≤ s.size) : skipD s i ≤ s.size := scan_le _ _ _ _ h

/-- The exponent's place, a sign passed. -/
def expAt (s : ByteArray) (n : Nat) : Nat := if n + 1 < s.size ∧ (bAt s (n + 1) = 43 ∨ bAt s (n + 1) = 45) then n + 2 else n + 1
def expo (s : ByteArray) (n : Nat) (d : Bool) : Nat × Bool :=
  if n < s.size ∧ (bAt s n = 101 ∨ bAt s n = 69) then
    if expAt s n < s.size ∧ digB (bAt s (expAt s n)) = true then (skipD s (expAt s n), false) else (n, d)
  else (n, d)
def scanNum (s : ByteArray) : Nat × Bool :=
  if skipD s 0 < s.size ∧ bAt s (skipD s 0) = 46 then
    if skipD s (skipD s 0 + 1) = 1 then (0, false) else expo s (skipD s (skipD s 0 + 1)) false
  else if skipD s 0 = 0 then (0, false) else expo s (skipD s 0) true

theorem expo_le (s : ByteArray) (n : Nat) (d : Bool) (h : n ≤ s.size) : n ≤ (expo s n d).1 ∧ (expo s n d).1 ≤ s.size := by
  unfold expo
  split
  · split
    · rename_i h1 h2
      have h3 : n ≤ expAt s n := by unfold expAt; split <;> omega
      exact ⟨Nat.le_trans h3 (skipD_ge _ _), skipD_le _ _ (by omega)⟩
    · exact ⟨Nat.le_refl _, h⟩
  · exact ⟨Nat.le_refl _, h⟩
theorem scanNum_le (s : ByteArray) : (scanNum s).1 ≤ s.size := by
  unfold scanNum
  have h0 := skipD_le s 0 (by omega)
  split
  · split
    · exact Nat.zero_le _
    · exact (expo_le _ _ _ (skipD_le _ _ (by omega))).2
  · split
    · exact Nat.zero_le _
    · exact (expo_le _ _ _ h0).2

end Go.Proofs.Qxb6604722a.Lx
