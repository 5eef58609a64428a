/- PLAIN: blanks, comments, operators. -/
import Derived.Test.Qxb6604722aLex
import Derived.Lib.Bytealg
import Derived.Lib.IndexAny
namespace Go.Proofs.Qxb6604722a.Lx

def pre (s : ByteArray) (i : Nat) (p : List UInt8) : Bool := Lib.hasPrefix (s.extract i s.size).data.toList p
def idx (s : ByteArray) (i : Nat) (c : UInt8) : Int := Lib.indexByte (s.extract i s.size).data.toList c

theorem ext_len (s : ByteArray) (i j : Nat) (h : j ≤ s.size) : (s.extract i j).data.toList.length = j - i := by
  have h1 : (s.extract i j).size = min j s.size - i := ByteArray.size_extract
  have h2 : (s.extract i j).data.toList.length = (s.extract i j).size := Array.length_toList
  rw [h2, h1, Nat.min_eq_left h]
theorem pre_two (s : ByteArray) (i : Nat) (a b : UInt8) (h : pre s i [a, b] = true) : i + 2 ≤ s.size := by
  unfold pre Lib.hasPrefix at h
  have h2 := (List.isPrefixOf_iff_prefix.1 h).length_le
  rw [ext_len _ _ _ (Nat.le_refl _)] at h2
  simp at h2
  omega
theorem indexByte_bd (c : UInt8) : ∀ l : List UInt8, -1 ≤ Lib.indexByte l c ∧ (0 ≤ Lib.indexByte l c → Lib.indexByte l c < l.length)
  | [] => by simp [Lib.indexByte]
  | b :: l => by
    have ih := indexByte_bd c l
    unfold Lib.indexByte
    split
    · simp
    · split
      · simp
      · simp at *
        omega
theorem idx_bd (s : ByteArray) (i : Nat) (c : UInt8) : -1 ≤ idx s i c ∧ (0 ≤ idx s i c → idx s i c < s.size - i) := by
  have h := indexByte_bd c (s.extract i s.size).data.toList
  rw [ext_len _ _ _ (Nat.le_refl _)] at h
  unfold idx
  refine ⟨h.1, fun h0 => ?_⟩
  have := h.2 h0
  omega

def opChars : List UInt8 := [43, 45, 42, 47, 60, 62, 61, 126, 33, 64, 35, 37, 94, 38, 124, 96, 63]
def opIdx (c : Int) : Int := Lib.indexByte opChars c.toNat.toUInt8
def opB (mk : Bool) (c : Int) : Bool := decide (0 ≤ opIdx c) && !(c == 63 && mk)
def com (s : ByteArray) (i : Nat) : Bool := pre s i [45, 45] || pre s i [47, 42]
def blkB (c : Int) : Bool := c == 32 || c == 9 || c == 10 || c == 13 || c == 12 || c == 11

/-- A block comment, from p on, d deep: (it is closed, the place behind). -/
def blockF (s : ByteArray) : Nat → Int → Nat → Bool × Nat
  | 0, _, p => (false, p)
  | n + 1, d, p =>
    if p < s.size then
      if pre s p [47, 42] = true then blockF s n (d + 1) (p + 2)
      else if pre s p [42, 47] = true then (if d - 1 = 0 then (true, p + 2) else blockF s n (d - 1) (p + 2))
      else blockF s n d (p + 1)
    else (false, p)
theorem blockF_open (s : ByteArray) (n : Nat) (d : Int) (p : Nat) (h : p < s.size) (h1 : pre s p [47, 42] = true) : blockF s (n + 1) d p = blockF s n (d + 1) (p + 2) := by
  rw [blockF, if_pos h, if_pos h1]
theorem blockF_close (s : ByteArray) (n : Nat) (d : Int) (p : Nat) (h : p < s.size) (h1 : pre s p [47, 42] = false) (h2 : pre s p [42, 47] = true) (h3 : d - 1 = 0) : blockF s (n + 1) d p = (true, p + 2) := by
  rw [blockF, if_pos h, if_neg (by simp [h1]), if_pos h2, if_pos h3]
theorem blockF_in (s : ByteArray) (n : Nat) (d : Int) (p : Nat) (h : p < s.size) (h1 : pre s p [47, 42] = false) (h2 : pre s p [42, 47] = true) (h3 : ¬ d - 1 = 0) : blockF s (n + 1) d p = blockF s n (d - 1) (p + 2) := by
  rw [blockF, if_pos h, if_neg (by simp [h1]), if_pos h2, if_neg h3]
theorem blockF_on (s : ByteArray) (n : Nat) (d : Int) (p : Nat) (h : p < s.size) (h1 : pre s p [47, 42] = false) (h2 : pre s p [42, 47] = false) : blockF s (n + 1) d p = blockF s n d (p + 1) := by
  rw [blockF, if_pos h, if_neg (by simp [h1]), if_neg (by simp [h2])]
theorem blockF_end (s : ByteArray) (n : Nat) (d : Int) (p : Nat) (h : ¬ p < s.size) : blockF s n d p = (false, p) := by
  cases n with
  | zero => rfl
  | succ n => rw [blockF, if_neg h]
theorem blockF_bd (s : ByteArray) : ∀ n d p, p ≤ s.size → p ≤ (blockF s n d p).2 ∧ (blockF s n d p).2 ≤ s.size := by
  intro n
  induction n with
  | zero => intro d p h; exact ⟨Nat.le_refl _, h⟩
  | succ n ih =>
    intro d p h
    unfold blockF
    split
    · split
      · rename_i h1
        have := pre_two s p _ _ h1
        have := ih (d + 1) (p + 2) (by omega)
        omega
      · split
        · rename_i h1
          have := pre_two s p _ _ h1
          split
          · exact ⟨by simp, by simpa using this⟩
          · have := ih (d - 1) (p + 2) (by omega)
            omega
        · have := ih d (p + 1) (by omega)
          omega
    · exact ⟨Nat.le_refl _, h⟩
/-- A block comment that begins at p ends beyond p. -/
theorem blockF_gt (s : ByteArray) (n : Nat) (d : Int) (p : Nat) (h : p < s.size) (h1 : pre s p [47, 42] = true) : p < (blockF s (n + 1) d p).2 := by
  rw [blockF_open s n d p h h1]
  have := pre_two s p _ _ h1
  have := (blockF_bd s n (d + 1) (p + 2) (by omega)).1
  omega

end Go.Proofs.Qxb6604722a.Lx
