/- Small facts that the laws' walks share. -/
import Derived.Test.Qxb6605687aDoorP7
import Derived.Test.Qxb6605687aDoorH2
import Derived.Test.Qxb6605687aDoorW8
import Derived.Room.AppendFits
import Derived.Lib.LazyBuf
import Derived.Test.Qxb6605687aDoorC2
import Derived.Test.Qxb6605687aDoorW10
namespace Go.Proofs.Qxb6605687aDoor
open Go.RowKit
set_option maxHeartbeats 8000000
set_option maxRecDepth 100000
set_option linter.unusedSimpArgs false
set_option linter.unusedVariables false

theorem info5d : (Tryd.prog.info? 5).map (fun i => (i.zero, i.size, i.bytes)) = some (some (.int .u8 0), 1, 1) := by kernel_rfl
theorem strCells_sb (s : ByteArray) : Lib.strCells s = u8s (sb s) := by
  simp [Lib.strCells, u8s, sb]
theorem rows_nil (b : Nat) (w : World) : Rows3 b w (.slice none 0 0) (.slice none 0 0) (.slice none 0 0) [] [] [] [] :=
  ⟨World.ownsRow_nil _ _ _ _, World.ownsRow_nil _ _ _ _, World.ownsRow_nil _ _ _ _, (fun g hg => by cases hg), (fun g hg => by cases hg), (fun g hg => by cases hg), rfl, fun k v arg h1 => by cases h1⟩
theorem strs_one (S : List ByteArray) : ∀ v ∈ S.map Value.string, v.oneCell' = true := fun v hv => by
  obtain ⟨x, _, rfl⟩ := List.mem_map.1 hv
  rfl
/-- A copied slice of strings. -/
theorem SL.copied {w : World} {S : List ByteArray} {M : Array Value} (hm : M.size = S.length) (mx : ∀ s ∈ S, s.size ≤ maxLen) :
    SL ((w.alloc (.cells M 9)).setRow w.heap.size ((S.map Value.string ++ M.toList.drop (0 + (S.map Value.string).length)).toArray)) (some ⟨w.heap.size, 0, none⟩) S := by
  refine ⟨fun i hi => ⟨_, rfl, ?_⟩, mx⟩
  have hh := setRow_heap (w.alloc (.cells M 9)) w.heap.size M ((S.map Value.string ++ M.toList.drop (0 + (S.map Value.string).length)).toArray) 9 (0, 0) (heap_alloc_new w _)
  rw [add_mk]
  simp only [Nat.zero_add] at hh ⊢
  rw [cell_of_row _ _ _ _ _ _ hh]
  have h1 : i < (S.map Value.string).length := by rw [List.length_map]; exact hi
  simp only [List.getElem?_toArray]
  rw [List.getElem?_append_left h1]
  simp [hi]


theorem info9 : (Tryd.prog.info? 9).map (fun i => (i.zero, i.size, i.bytes)) = some (some (.string ⟨#[]⟩), 1, 16) := by kernel_rfl
theorem neq51 (W : World) (a : Addr) (n c : Nat) : (binOp .neq 51 (.slice (some a) n c) (.slice none 0 0)).run Tryd.prog W = .ok (.bool true) W := by
  have h := Go.run_eql_slice_nil W 51 9 (some a) n c Tryd.underlying51
  simp only [binOp] at h ⊢
  cases hx : (Op.equal 51 (.slice (some a) n c) (.slice none 0 0)).run Tryd.prog W with
  | ok b w' =>
    simp [hx] at h ⊢
    exact h
  | halt x w' => simp [hx] at h

end Go.Proofs.Qxb6605687aDoor
