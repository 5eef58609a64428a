/- PLAIN: what folding gives, byte by byte. -/
import Derived.Test.Qxb6604722aLex3
namespace Go.Proofs.Qxb6604722a.Lx
def lowI (c : Int) : Int := if 65 ≤ c ∧ c ≤ 90 then c + 32 else c
theorem lowI_up (c : Int) (h : 65 ≤ c) (h' : c ≤ 90) : lowI c = c + 32 := if_pos ⟨h, h'⟩
theorem lowI_no (c : Int) (h : ¬ (65 ≤ c ∧ c ≤ 90)) : lowI c = c := if_neg h
theorem low8_nat (c : UInt8) : ((low8 c).toNat : Int) = lowI c.toNat := by
  unfold low8 lowI
  have hc := c.toNat_lt
  by_cases h : 65 ≤ c ∧ c ≤ 90
  · rw [if_pos h]
    have h1 : 65 ≤ c.toNat := by simpa using UInt8.le_iff_toNat_le.1 h.1
    have h2 : c.toNat ≤ 90 := by simpa using UInt8.le_iff_toNat_le.1 h.2
    rw [if_pos (by omega), UInt8.toNat_add]
    simp
    omega
  · rw [if_neg h, if_neg]
    intro h'
    apply h
    refine ⟨UInt8.le_iff_toNat_le.2 ?_, UInt8.le_iff_toNat_le.2 ?_⟩
    · simp; omega
    · simp; omega
theorem foldB_len (s : ByteArray) : (foldB s).data.toList.length = s.size := by
  unfold foldB
  simp
theorem foldB_size (s : ByteArray) : (foldB s).size = s.size := by
  have := foldB_len s
  rwa [Array.length_toList] at this
theorem foldB_at (s : ByteArray) (j : Nat) (h : j < (foldB s).data.toList.length) : (((foldB s).data.toList[j]'h).toNat : Int) = lowI (bAt s j) := by
  have hj : j < s.size := by rw [foldB_len] at h; exact h
  rw [bAt_eq s j hj, ← low8_nat]
  have e : (foldB s).data.toList[j]'h = low8 (s.data.toList[j]'(by rw [Array.length_toList]; exact hj)) := by
    have hl : (foldB s).data.toList = s.data.toList.map low8 := by simp [foldB]
    simp only [hl, List.getElem_map]
  rw [e]
  rfl
theorem foldB_id (s : ByteArray) (h : ∀ j, j < s.size → ¬ (65 ≤ bAt s j ∧ bAt s j ≤ 90)) : foldB s = s := by
  have e : (foldB s).data.toList = s.data.toList := by
    apply List.ext_getElem
    · rw [foldB_len]; exact Array.length_toList.symm
    · intro j h1 h2
      have hj : j < s.size := by rw [foldB_len] at h1; exact h1
      have h3 := foldB_at s j h1
      rw [lowI_no _ (h j hj), bAt_eq s j hj] at h3
      apply UInt8.toNat_inj.1
      have h4 : s.data.toList[j] = s[j] := rfl
      rw [h4]
      omega
  have e2 : (foldB s).data = s.data := by
    rw [← Array.toList_inj]
    exact e
  exact ByteArray.ext e2
end Go.Proofs.Qxb6604722a.Lx
