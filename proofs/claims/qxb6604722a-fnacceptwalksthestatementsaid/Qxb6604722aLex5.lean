/- PLAIN: operator characters. -/
import Derived.Test.Qxb6604722aLex4
namespace Go.Proofs.Qxb6604722a.Lx
theorem op_table : ∀ n : Fin 256, 0 ≤ opIdx (n.val : Int) → n.val < 128 ∧ wstB (n.val : Int) = false ∧ digB (n.val : Int) = false ∧ n.val ≠ 46 ∧ n.val ≠ 39 ∧ n.val ≠ 34 ∧ n.val ≠ 59 ∧ n.val ≠ 58 := by
  decide +kernel
theorem op_facts (mk : Bool) (c : Int) (h0 : 0 ≤ c) (h1 : c ≤ 255) (h : opB mk c = true) : c < 128 ∧ wstB c = false ∧ digB c = false ∧ c ≠ 46 ∧ c ≠ 39 ∧ c ≠ 34 ∧ c ≠ 59 ∧ c ≠ 58 := by
  obtain ⟨n, rfl⟩ := Int.eq_ofNat_of_zero_le h0
  have hi : 0 ≤ opIdx (n : Int) := by
    unfold opB at h
    simp only [Bool.and_eq_true, decide_eq_true_eq] at h
    exact h.1
  have t := op_table ⟨n, by omega⟩ hi
  simp only at t
  obtain ⟨a, b, c, d, e, f, g, k⟩ := t
  exact ⟨by omega, b, c, by omega, by omega, by omega, by omega, by omega⟩
theorem opIdx_63 : 0 ≤ opIdx 63 := by decide +kernel
/-- The bytes of a stretch whose bytes are operator characters are ASCII. -/
theorem op_ascii (s : ByteArray) (mk : Bool) (p e : Nat) (he : e ≤ s.size) (h : ∀ j, p ≤ j → j < e → opB mk (bAt s j) = true) :
    ∀ (j : Nat) b, (s.extract p e).data.toList[j]? = some b → b.toNat < 128 := by
  intro j b hj
  rw [Lib.extract_data, List.getElem?_take] at hj
  split at hj
  · rename_i hlt
    rw [List.getElem?_drop] at hj
    have hj2 : p + j < s.size := by omega
    have hb : s.data.toList[p + j]? = some (s[p + j]'hj2) := List.getElem?_eq_getElem (l := s.data.toList) (by rw [Array.length_toList]; exact hj2)
    rw [hb] at hj
    cases hj
    have ho := h (p + j) (by omega) (by omega)
    have hbd := bAt_bd s (p + j)
    have := (op_facts mk _ hbd.1 hbd.2 ho).1
    rw [bAt_eq s (p + j) hj2] at this
    omega
  · cases hj
theorem special_ascii : ∀ (j : Nat) b, (⟨#[126, 33, 64, 35, 37, 94, 38, 124, 96, 63]⟩ : ByteArray).data.toList[j]? = some b → b.toNat < 128 := by
  intro j b hj
  have hm : b ∈ [(126 : UInt8), 33, 64, 35, 37, 94, 38, 124, 96, 63] := List.mem_of_getElem? hj
  have ht : ∀ b ∈ [(126 : UInt8), 33, 64, 35, 37, 94, 38, 124, 96, 63], b.toNat < 128 := by decide
  exact ht b hm
end Go.Proofs.Qxb6604722a.Lx
