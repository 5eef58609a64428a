/- A slice of strings as an argument: opened, and read again. -/
import Derived.Test.Qxb6605687aDoorK1
namespace Go.Proofs.Qxb6605687aDoor
open Go.ChangeShapes Go.WideShapes Go.RowKit Go.Deep
set_option maxRecDepth 100000
set_option maxHeartbeats 800000
set_option linter.unusedVariables false

theorem open51 {H : Type} {enc : TypeId × Value → H} {W : World} {v : Value} {d : DataW H} {p : List MemPlace} {base : Nat}
    (hv : Value.okWide Tryd.prog W .any base 51 v) (h : DataW.Trod enc Tryd.prog W 0 (fun _ => true) true 51 v d p) :
    ∃ pa cp S, v = .slice pa (List.length S) cp ∧ SL W pa S ∧ S.length ≤ maxLen ∧ (pa = none → S.length = 0 ∧ cp = 0) ∧
      ∀ W', Below W.heap.size W W' → DataW.Trod enc Tryd.prog W' 0 (fun b => decide (b < W.heap.size)) true 51 v d p := by
  obtain ⟨a0, len, cap, rfl⟩ := okWide_slice Tryd.underlying51 hv
  obtain ⟨fuel, hf⟩ := h
  rcases open_strs Tryd.underlying51 Tryd.underlying9 c9 hf with ⟨hcs, hx⟩ | ⟨a, len', cap', m, Sx, hcs, _, hl, hm, hmm, hx, hcell⟩
  · simp [Value.cells] at hcs
    obtain ⟨rfl, rfl, rfl⟩ := hcs
    simp only [Prod.mk.injEq] at hx
    obtain ⟨rfl, rfl⟩ := hx
    exact ⟨none, 0, [], rfl, ⟨fun i hi => absurd hi (Nat.not_lt_zero _), fun s hs => by cases hs⟩, Nat.zero_le _, fun _ => ⟨rfl, rfl⟩, fun W' hb => shut_slice_nil Tryd.underlying51⟩
  simp [Value.cells] at hcs
  obtain ⟨rfl, rfl, rfl⟩ := hcs
  simp only [Prod.mk.injEq] at hx
  obtain ⟨rfl, rfl⟩ := hx
  simp only [if_true] at hmm
  have hmm' : cap = m := hmm.symm
  subst hmm'
  have hS : ((List.range len).map Sx).length = len := by simp
  have hget : ∀ i, i < len → ((List.range len).map Sx).getD i default = Sx i := fun i hi => by simp [hi]
  refine ⟨some a, cap, (List.range len).map Sx, by rw [hS], ⟨fun i hi => ⟨a, rfl, ?_⟩, fun s hs => ?_⟩, (by rw [hS]; omega), (fun h => by cases h), fun W' hb => ?_⟩
  · rw [hS] at hi
    rw [hget i hi]
    exact (hcell i (by omega)).1
  · obtain ⟨i, hi, rfl⟩ := List.mem_map.1 hs
    exact (hcell i (by have := List.mem_range.1 hi; omega)).2
  obtain ⟨b, off, spot⟩ := a
  by_cases hc0 : cap = 0
  · subst hc0
    have hlen0 : len = 0 := by omega
    subst hlen0
    cases hsp : decide (b < W.heap.size)
    · obtain ⟨n, h⟩ := shut_slice_cells (enc := enc) (w := W') (base := 0) (spare := fun b => decide (b < W.heap.size)) (held := true) (a := ⟨b, off, spot⟩) (len := 0) (cap := 0) Tryd.underlying51 (Nat.zero_le _) (Nat.le_refl _) (Nat.zero_le _) hsp (fun _ => .nil) (fun _ => []) (fun i hi => absurd hi (Nat.not_lt_zero _))
      have h' : DataW.trod enc Tryd.prog W' 0 (fun b => decide (b < W.heap.size)) true n 51 [Value.slice (some ⟨b, off, spot⟩) 0 0] = some (DataW.slice [] [], []) := by simpa [MemPlace.row] using h
      exact ⟨n, h'⟩
    · obtain ⟨n, h⟩ := shut_slice_whole_cells (enc := enc) (w := W') (base := 0) (spare := fun b => decide (b < W.heap.size)) (held := true) (a := ⟨b, off, spot⟩) (len := 0) (cap := 0) Tryd.underlying51 (Nat.zero_le _) (Nat.le_refl _) (Nat.zero_le _) hsp (fun _ => .nil) (fun _ => []) (fun i hi => absurd hi (Nat.not_lt_zero _))
      have h' : DataW.trod enc Tryd.prog W' 0 (fun b => decide (b < W.heap.size)) true n 51 [Value.slice (some ⟨b, off, spot⟩) 0 0] = some (DataW.slice [] [], []) := by simpa [MemPlace.row] using h
      exact ⟨n, h'⟩
  have hspot : spot = none := by simpa [Addr.add] using World.cell?_spot (hcell 0 (by omega)).1
  subst hspot
  have hcell' : ∀ j, j < cap → W.cell? ⟨b, off + j, none⟩ = some (.string (Sx j)) := fun j hj => by rw [← add_plain]; exact (hcell j hj).1
  have hlt : b < W.heap.size := World.block_lt_of_cell? _ _ (hcell' 0 (by omega))
  obtain ⟨n2, targ⟩ := shut_strs_whole (enc := enc) (w := W') (base := 0) (spare := fun b => decide (b < W.heap.size)) (held := true) Tryd.underlying51 Tryd.underlying9 c9 (b := b) (off := off) (len := len) (cap := cap) (Nat.zero_le _) hl hm (by simpa using hlt)
    Sx (fun i hi => (hb.cell (show (⟨b, off + i, none⟩ : Addr).block < W.heap.size from hlt)).trans (hcell' i hi)) (fun i hi => (hcell i hi).2)
  exact ⟨n2, targ⟩
end Go.Proofs.Qxb6605687aDoor
