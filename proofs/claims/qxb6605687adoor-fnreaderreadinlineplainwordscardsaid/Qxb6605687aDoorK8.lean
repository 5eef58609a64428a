/- The witness world is shaped: one great table by a law, the rest by the kernel. -/
import Derived.Test.Qxb6605687aDoorK7
import Derived.Handed
namespace Go.Proofs.Qxb6605687aDoor
open Go.ChangeShapes Go.WideShapes Go.RowKit Go.Deep
set_option maxRecDepth 100000
set_option maxHeartbeats 800000
set_option linter.unusedVariables false

theorem row_rep {P : Program} {w : World} {r : Reach} {base : Nat} {t u : TypeId} {v : Value} {n : Nat} (hts : P.cellTypes P.depth t = some (List.replicate n u)) (hn : 0 < n) (hv : Cell.ok P w r base u v) : Row.ok P w r base t (Array.replicate n v) := by
  refine ⟨_, hts, ⟨1, by simp⟩, fun i v' h => ⟨u, ?_, ?_⟩⟩
  · rw [List.length_replicate, List.getElem?_replicate, if_pos (Nat.mod_lt _ hn)]
  · rw [Array.getElem?_replicate] at h
    split at h
    · cases h; exact hv
    · cases h

def gOk (P : Program) (w : World) (g : Nat) : Bool :=
  match ((begin P (fun _ _ => 0) default).world.heap[g]?).bind Obj.row? with
  | none => true
  | some (zero, t) =>
    match w.heap[g]? with
    | some (.cells cs t' frozen) => decide (t' = t) && decide (frozen = (0, 0)) && cs.size == zero.size && (!P.buildable t || Row.okB P t cs)
    | _ => false

theorem shaped_but {P : Program} {w : World} (k : Nat) (hv : ∀ g, g < P.globals.size → g ≠ k → gOk P w g = true)
    (hk : ∀ zero t, ((begin P (fun _ _ => 0) default).world.heap[k]?).bind Obj.row? = some (zero, t) → ∃ cs, w.heap[k]? = some (.cells cs t) ∧ cs.size = zero.size ∧ (P.buildable t = true → Row.ok P w .any 0 t cs))
    (hr : (w.heap.toList.drop P.globals.size).take ((begin P (fun _ _ => 0) default).world.heap.size - P.globals.size) =
      (begin P (fun _ _ => 0) default).world.heap.toList.drop P.globals.size) : w.Shaped P := by
  refine ⟨fun g zero t hg hz => ?_, fun k h1 h2 => ?_⟩
  case refine_2 =>
    have := congrArg (·[k - P.globals.size]?) hr
    simp only [List.getElem?_take, List.getElem?_drop, Array.getElem?_toList] at this
    rw [if_pos (by omega), Nat.add_sub_cancel' h1] at this
    exact this
  by_cases e : g = k
  · subst e
    exact hk zero t hz
  have := hv g hg e
  unfold gOk at this
  rw [hz] at this
  simp only at this
  split at this
  · rename_i cs t' fr hw
    simp only [Bool.and_eq_true, decide_eq_true_eq, beq_iff_eq, Bool.or_eq_true, Bool.not_eq_true'] at this
    obtain ⟨⟨⟨rfl, rfl⟩, hs⟩, hb⟩ := this
    refine ⟨cs, hw, hs, fun hbuild => ?_⟩
    rcases hb with hb | hb
    · rw [hbuild] at hb; cases hb
    · exact Row.ok_of_okB hb
  · cases this

noncomputable abbrev wit (os : Os) (args : Array Value) : World := (laidWorld os).forCall (fun _ _ => 0) ⟨#[], args, []⟩
theorem nGlobals : Tryd.prog.globals.size = 13 := by kernel_rfl
theorem ok0 (os : Os) (args : Array Value) : gOk Tryd.prog (wit os args) 0 = true := by kernel_rfl
theorem ok1 (os : Os) (args : Array Value) : gOk Tryd.prog (wit os args) 1 = true := by kernel_rfl
theorem ok2 (os : Os) (args : Array Value) : gOk Tryd.prog (wit os args) 2 = true := by kernel_rfl
theorem ok3 (os : Os) (args : Array Value) : gOk Tryd.prog (wit os args) 3 = true := by kernel_rfl
theorem ok4 (os : Os) (args : Array Value) : gOk Tryd.prog (wit os args) 4 = true := by kernel_rfl
theorem ok5 (os : Os) (args : Array Value) : gOk Tryd.prog (wit os args) 5 = true := by kernel_rfl
theorem ok6 (os : Os) (args : Array Value) : gOk Tryd.prog (wit os args) 6 = true := by kernel_rfl
theorem ok7 (os : Os) (args : Array Value) : gOk Tryd.prog (wit os args) 7 = true := by kernel_rfl
theorem ok8 (os : Os) (args : Array Value) : gOk Tryd.prog (wit os args) 8 = true := by kernel_rfl
theorem ok10 (os : Os) (args : Array Value) : gOk Tryd.prog (wit os args) 10 = true := by kernel_rfl
theorem ok11 (os : Os) (args : Array Value) : gOk Tryd.prog (wit os args) 11 = true := by kernel_rfl
theorem ok12 (os : Os) (args : Array Value) : gOk Tryd.prog (wit os args) 12 = true := by kernel_rfl
theorem ok_rest (os : Os) (args : Array Value) (g : Nat) (hg : g < 13) (h9 : g ≠ 9) : gOk Tryd.prog (wit os args) g = true := by
  have hc : g = 0 ∨ g = 1 ∨ g = 2 ∨ g = 3 ∨ g = 4 ∨ g = 5 ∨ g = 6 ∨ g = 7 ∨ g = 8 ∨ g = 10 ∨ g = 11 ∨ g = 12 := by omega
  rcases hc with rfl | rfl | rfl | rfl | rfl | rfl | rfl | rfl | rfl | rfl | rfl | rfl
  · exact ok0 os args
  · exact ok1 os args
  · exact ok2 os args
  · exact ok3 os args
  · exact ok4 os args
  · exact ok5 os args
  · exact ok6 os args
  · exact ok7 os args
  · exact ok8 os args
  · exact ok10 os args
  · exact ok11 os args
  · exact ok12 os args
theorem tab_zero : ((begin Tryd.prog (fun _ _ => 0) default).world.heap[9]?).bind Obj.row? = some (Array.replicate 1392 (.int .u64 0), 151) := by kernel_rfl
theorem tab_here (os : Os) (args : Array Value) : (wit os args).heap[9]? = some (.cells (Array.replicate 1392 (.int .u64 0)) 151) := by kernel_rfl
theorem tab_types : Tryd.prog.cellTypes Tryd.prog.depth 151 = some (List.replicate 1392 62) := by kernel_rfl
theorem u62 : Tryd.prog.underlying 62 = some (.int .u64) := by kernel_rfl
theorem wit_shaped (os : Os) (args : Array Value) : (wit os args).Shaped Tryd.prog := by
  refine shaped_but 9 (fun g hg h9 => ok_rest os args g (by rw [nGlobals] at hg; exact hg) h9) (fun zero t hz => ?_) (by kernel_rfl)
  rw [tab_zero] at hz
  cases hz
  exact ⟨_, tab_here os args, rfl, fun _ => row_rep tab_types (by omega) (by unfold Cell.ok; rw [u62]; exact ⟨rfl, by unfold IntKind.has; decide⟩)⟩
end Go.Proofs.Qxb6605687aDoor
