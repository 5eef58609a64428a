/- A string's code points, whatever its bytes; the iterator in whatever world. -/
import Derived.Test.Qxb6605742aShelf
import Derived.Below
import Derived.Deep.LoopGhost
import Derived.WalkKit
namespace Go.Proofs.Qxb6605742a
open Go.RowKit
set_option maxHeartbeats 4000000
set_option maxRecDepth 100000
set_option linter.unusedSimpArgs false
set_option linter.unusedVariables false

theorem get_at (s : ByteArray) (k : Nat) (h : k < s.size) : s.get! k = s[k]'h := by
  simp [ByteArray.get!, getElem!_pos, h]
  rfl

/-- What a code point that does not begin with an ASCII byte is made of. -/
theorem dec_high (s : ByteArray) (pos : Nat) (h : pos < s.size) (hb : 128 ≤ (s[pos]'h).toNat) :
    ∃ r n, Utf8.decode s pos = (r, n) ∧ 128 ≤ r ∧ r ≤ 1114111 ∧ (r = 65533 ∨ Utf8.valid (r : Int) = true) ∧ 1 ≤ n ∧ pos + n ≤ s.size ∧ ∀ k (hk : pos + k < s.size), k < n → 128 ≤ (s[pos + k]'hk).toNat := by
  have e0 : s.get! (pos + 0) = s[pos]'h := get_at s pos h
  have one : ∃ r n, ((65533, 1) : Nat × Nat) = (r, n) ∧ 128 ≤ r ∧ r ≤ 1114111 ∧ (r = 65533 ∨ Utf8.valid (r : Int) = true) ∧ 1 ≤ n ∧ pos + n ≤ s.size ∧ ∀ k (hk : pos + k < s.size), k < n → 128 ≤ (s[pos + k]'hk).toNat :=
    ⟨65533, 1, rfl, by omega, by omega, .inl rfl, by omega, by omega, fun k hk h1 => by
      obtain rfl : k = 0 := by omega
      exact hb⟩
  have cont : ∀ k, (decide (pos + k < s.size) && (s.get! (pos + k)).toNat / 64 == 2) = true → ∃ hk : pos + k < s.size, 128 ≤ (s[pos + k]'hk).toNat := fun k hk => by
    simp only [Bool.and_eq_true, decide_eq_true_eq, beq_iff_eq] at hk
    refine ⟨hk.1, ?_⟩
    rw [← get_at s _ hk.1]
    omega
  have vle : ∀ c : Nat, Utf8.valid (c : Int) = true → c ≤ 1114111 := fun c hc => by
    simp [Utf8.valid] at hc
    omega
  have v2 : ∀ c : Nat, c < 2048 → Utf8.valid (c : Int) = true := fun c hc => by
    simp [Utf8.valid]
    omega
  unfold Utf8.decode
  simp only [e0, Utf8.runeError]
  rw [if_neg (by omega)]
  split
  · rename_i h2
    rw [Bool.and_eq_true] at h2
    obtain ⟨q1, p1⟩ := cont 1 h2.2
    split
    · refine ⟨_, _, rfl, by omega, by omega, .inr (v2 _ (by omega)), by omega, by omega, fun k hk hk2 => ?_⟩
      rcases (by omega : k = 0 ∨ k = 1) with rfl | rfl
      · exact hb
      · exact p1
    · exact one
  · split
    · rename_i h2
      rw [Bool.and_eq_true, Bool.and_eq_true] at h2
      obtain ⟨q1, p1⟩ := cont 1 h2.1.2
      obtain ⟨q2, p2⟩ := cont 2 h2.2
      split
      · rename_i hv
        rw [Bool.and_eq_true, decide_eq_true_eq] at hv
        refine ⟨_, _, rfl, by omega, vle _ hv.2, .inr hv.2, by omega, by omega, fun k hk hk2 => ?_⟩
        rcases (by omega : k = 0 ∨ k = 1 ∨ k = 2) with rfl | rfl | rfl
        · exact hb
        · exact p1
        · exact p2
      · exact one
    · split
      · rename_i h2
        rw [Bool.and_eq_true, Bool.and_eq_true, Bool.and_eq_true] at h2
        obtain ⟨q1, p1⟩ := cont 1 h2.1.1.2
        obtain ⟨q2, p2⟩ := cont 2 h2.1.2
        obtain ⟨q3, p3⟩ := cont 3 h2.2
        split
        · rename_i hv
          rw [Bool.and_eq_true, decide_eq_true_eq] at hv
          refine ⟨_, _, rfl, by omega, vle _ hv.2, .inr hv.2, by omega, by omega, fun k hk hk2 => ?_⟩
          rcases (by omega : k = 0 ∨ k = 1 ∨ k = 2 ∨ k = 3) with rfl | rfl | rfl | rfl
          · exact hb
          · exact p1
          · exact p2
          · exact p3
        · exact one
      · exact one

/-- The iterator at block b, moved. -/
def mv (w : World) (b : Nat) (s : ByteArray) (pos : Nat) : World := { w with heap := w.heap.setIfInBounds b (.stringIter s pos) }
theorem mv_heap {w : World} {b : Nat} {s s' : ByteArray} {pos pos' : Nat} (h : w.heap[b]? = some (.stringIter s pos)) : (mv w b s' pos').heap[b]? = some (.stringIter s' pos') := by
  have hb : b < w.heap.size := by
    rcases Nat.lt_or_ge b w.heap.size with h' | h'
    · exact h'
    · rw [Array.getElem?_eq_none h'] at h; cases h
  simp [mv, hb]
theorem mv_below {B : Nat} {a w : World} (hb : Below B a w) {b : Nat} (h : B ≤ b) (s : ByteArray) (pos : Nat) : Below B a (mv w b s pos) :=
  hb.trans ⟨rfl, rfl, rfl, by simp [mv], fun k hk => by
    show (w.heap.setIfInBounds b _)[k]? = _
    rw [Array.getElem?_setIfInBounds_ne (by omega)]⟩

theorem next_some {P : Program} {w : World} {b : Nat} {s : ByteArray} {pos r n : Nat} (ty : TypeId) (hh : w.heap[b]? = some (.stringIter s pos)) (h : pos < s.size) (hd : Utf8.decode s pos = (r, n)) :
    (Instr.next (.pointer (some ⟨b, 0, none⟩)) true ty).run P w = .ok (.tuple #[.bool true, .int .i64 pos, .int .i32 r]) (mv w b s (pos + n)) := by
  simp only [Instr.next, getObj, setObj, Sem.run_bind, Sem.run, hh, Result.andThen, h, if_true, hd]
  simp [goInt, Sem.run, mv, hh]
theorem next_none {P : Program} {w : World} {b : Nat} {s : ByteArray} {pos : Nat} (ty : TypeId) (hh : w.heap[b]? = some (.stringIter s pos)) (h : ¬ pos < s.size) :
    (Instr.next (.pointer (some ⟨b, 0, none⟩)) true ty).run P w = .ok (.tuple #[.bool false]) w := by
  simp [Instr.next, getObj, Sem.run, hh, h]
end Go.Proofs.Qxb6605742a
