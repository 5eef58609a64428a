/- The rows' shells: the five listed variables; a slice of strings as an argument. -/
import Derived.Test.Qxb6605687aDoorTie
import Derived.Test.Qxb6605687aDoorH1
import Derived.ChangeSame
import Derived.ChangeVars
import Derived.JoinedOf
import Derived.RowKit
import Derived.RowKitTokens
import Derived.LaidLaws
import Derived.LaidHandle
import Derived.MakeChecks
import Derived.Stop.ErrReads
import Derived.Stop.Joined
import Derived.Deep.Strs
import Derived.ProofKit
import Derived.OpenShut
import Derived.SevenTiedAt
namespace Go.Proofs.Qxb6605687aDoor
open Go.ChangeShapes Go.WideShapes Go.RowKit Go.Deep
set_option maxRecDepth 100000
set_option linter.unusedVariables false

theorem own : ownKnob Tryd.prog.godebug = none := by kernel_rfl
theorem gEOF : Tryd.prog.globalNamed "io.EOF" = some 3 := by kernel_rfl
theorem gUnx : Tryd.prog.globalNamed "io.ErrUnexpectedEOF" = some 4 := by kernel_rfl
theorem gNop : Tryd.prog.globalNamed "io.ErrNoProgress" = some 7 := by kernel_rfl
theorem gFul : Tryd.prog.globalNamed "bufio.ErrBufferFull" = some 1 := by kernel_rfl
theorem gNeg : Tryd.prog.globalNamed "bufio.errNegativeRead" = some 6 := by kernel_rfl
theorem gEOFt : (Tryd.prog.globals[3]?).map (·.type) = some 27 := by kernel_rfl
theorem gUnxt : (Tryd.prog.globals[4]?).map (·.type) = some 27 := by kernel_rfl
theorem gNopt : (Tryd.prog.globals[7]?).map (·.type) = some 27 := by kernel_rfl
theorem gFult : (Tryd.prog.globals[1]?).map (·.type) = some 27 := by kernel_rfl
theorem gNegt : (Tryd.prog.globals[6]?).map (·.type) = some 27 := by kernel_rfl
theorem c176 : Tryd.prog.cellsOf 176 = 1 := by kernel_rfl
theorem c9 : Tryd.prog.cellsOf 9 = 1 := by kernel_rfl
theorem starS : "*" ++ "errors.errorString" = "*errors.errorString" := by decide
theorem row160 (u : TypeId) (h : Tryd.prog.typeName? 3 u = some "*errors.errorString") : u = 160 :=
  typeName_ptr_named (nm := "errors.errorString") (by rw [starS]; kernel_rfl) (by kernel_rfl) (by decide) u (by rw [starS]; exact h)

abbrev L5 : List (String × DataW Unit) := [("io.EOF", Rows.laid_io_EOF), ("io.ErrUnexpectedEOF", Rows.laid_io_ErrUnexpectedEOF), ("io.ErrNoProgress", Rows.laid_io_ErrNoProgress), ("bufio.ErrBufferFull", Rows.laid_bufio_ErrBufferFull), ("bufio.errNegativeRead", Rows.laid_bufio_errNegativeRead)]

theorem plain5 (W : World) : laidMetH Tryd.prog L5 W = laidMet Tryd.prog L5 W := Go.MakeChecks.laidMetH_plain _ _ _ (by kernel_rfl)

theorem gl_of_laid {W : World} (h0 : laidMetH Tryd.prog L5 W) : ∃ a1 a3 a4, Gl W.heap.size W a1 a3 a4 := by
  rw [plain5] at h0
  obtain ⟨ps, ⟨g0, t0, cs0, f0, p0, q0, hg0, ht0, hv0, hd0, ⟨g1, t1, cs1, f1, p1, q1, hg1, ht1, hv1, hd1, ⟨g2, t2, cs2, f2, p2, q2, hg2, ht2, hv2, hd2, ⟨g3, t3, cs3, f3, p3, q3, hg3, ht3, hv3, hd3, ⟨g4, t4, cs4, f4, p4, q4, hg4, ht4, hv4, hd4, hq4, e4⟩, e3⟩, e2⟩, e1⟩, e0⟩, hnd, hrows⟩ := h0
  obtain rfl := Option.some.inj (gEOF.symm.trans hg0)
  obtain rfl := Option.some.inj (gUnx.symm.trans hg1)
  obtain rfl := Option.some.inj (gNop.symm.trans hg2)
  obtain rfl := Option.some.inj (gFul.symm.trans hg3)
  obtain rfl := Option.some.inj (gNeg.symm.trans hg4)
  obtain rfl := Option.some.inj (gEOFt.symm.trans ht0)
  obtain rfl := Option.some.inj (gUnxt.symm.trans ht1)
  obtain rfl := Option.some.inj (gFult.symm.trans ht3)
  have hq4' : q4 = [] := hq4
  subst hq4'
  subst e4
  subst e3
  subst e2
  subst e1
  subst e0
  obtain ⟨l0⟩ := cs0
  obtain ⟨l1⟩ := cs1
  obtain ⟨l3⟩ := cs3
  have ok0 : ∀ u v, l0 = [.iface u v] → Value.okWide Tryd.prog W .any 0 u v := fun u v e => by
    subst e
    exact (hrows 3 0 (by simp [MemPlace.row])).2 u v (by simpa using World.var?_cell hg0 hv0 0)
  have ok1 : ∀ u v, l1 = [.iface u v] → Value.okWide Tryd.prog W .any 0 u v := fun u v e => by
    subst e
    exact (hrows 4 0 (by simp [MemPlace.row])).2 u v (by simpa using World.var?_cell hg1 hv1 0)
  have ok3 : ∀ u v, l3 = [.iface u v] → Value.okWide Tryd.prog W .any 0 u v := fun u v e => by
    subst e
    exact (hrows 1 0 (by simp [MemPlace.row])).2 u v (by simpa using World.var?_cell hg3 hv3 0)
  obtain ⟨a3, s3, rfl, hc3, hs3, hz3, rfl⟩ := errorString_of_trod Tryd.underlying27 row160 Tryd.underlying160 Tryd.underlying176 rfl rfl Tryd.underlying9 c176 c9 hd0 ok0
  obtain ⟨a4, s4, rfl, hc4, hs4, hz4, rfl⟩ := errorString_of_trod Tryd.underlying27 row160 Tryd.underlying160 Tryd.underlying176 rfl rfl Tryd.underlying9 c176 c9 hd1 ok1
  obtain ⟨a1, s1, rfl, hc1, hs1, hz1, rfl⟩ := errorString_of_trod Tryd.underlying27 row160 Tryd.underlying160 Tryd.underlying176 rfl rfl Tryd.underlying9 c176 c9 hd3 ok3
  have hb3 := (hrows a3.block a3.off (by simp [MemPlace.row])).1
  have hb1 := (hrows a1.block a1.off (by simp [MemPlace.row])).1
  have lt : ∀ {k : Nat} {o : Obj}, W.heap[k]? = some o → k < W.heap.size := fun {k o} h => by
    rcases Nat.lt_or_ge k W.heap.size with h' | h'
    · exact h'
    · rw [Array.getElem?_eq_none h'] at h
      cases h
  have hgc4 : W.cell? ⟨4, 0, none⟩ = some (.iface 160 (.pointer (some a4))) := by simpa using World.var?_cell gUnx hv1 0
  refine ⟨a1, a3, a4, by simpa using World.var?_cell gFul hv3 0, by simpa using World.var?_cell gEOF hv0 0, hgc4, ?_, hb1, hb3, ?_, ?_, ?_⟩
  · rintro rfl
    simp [MemPlace.row] at hnd
  · obtain ⟨c, t, h⟩ := hb1
    exact lt h
  · obtain ⟨c, t, h⟩ := hb3
    exact lt h
  · exact World.block_lt_of_cell? _ _ hgc4

/-- A world that holds the five. -/
noncomputable def low : Nat := (World.holding Tryd.prog default ⟨#[], #[], []⟩).heap.size
abbrev bEOF : ByteArray := { data := #[69, 79, 70] }
abbrev bUnx : ByteArray := { data := #[117, 110, 101, 120, 112, 101, 99, 116, 101, 100, 32, 69, 79, 70] }
abbrev bNop : ByteArray := { data := #[109, 117, 108, 116, 105, 112, 108, 101, 32, 82, 101, 97, 100, 32, 99, 97, 108, 108, 115, 32, 114, 101, 116, 117, 114, 110, 32, 110, 111, 32, 100, 97, 116, 97, 32, 111, 114, 32, 101, 114, 114, 111, 114] }
abbrev bFul : ByteArray := { data := #[98, 117, 102, 105, 111, 58, 32, 98, 117, 102, 102, 101, 114, 32, 102, 117, 108, 108] }
abbrev bNeg : ByteArray := { data := #[98, 117, 102, 105, 111, 58, 32, 114, 101, 97, 100, 101, 114, 32, 114, 101, 116, 117, 114, 110, 101, 100, 32, 110, 101, 103, 97, 116, 105, 118, 101, 32, 99, 111, 117, 110, 116, 32, 102, 114, 111, 109, 32, 82, 101, 97, 100] }
noncomputable def layAt (h : Array Obj) (g k : Nat) : Array Obj := h.modify g fun
  | .cells _ t frozen => .cells #[.iface 160 (.pointer (some ⟨low + k, 0, none⟩))] t frozen
  | o => o
noncomputable def laidWorld (os : Os) : World :=
  let w0 := World.holding Tryd.prog os ⟨#[.cells #[.string bEOF] 176, .cells #[.string bUnx] 176, .cells #[.string bNop] 176, .cells #[.string bFul] 176, .cells #[.string bNeg] 176], #[], []⟩
  { w0 with heap := layAt (layAt (layAt (layAt (layAt w0.heap 3 0) 4 1) 7 2) 1 3) 6 4 }
theorem laidWorld_met (os : Os) (args : Array Value) : laidMetH Tryd.prog L5 ((laidWorld os).forCall (fun _ _ => 0) ⟨#[], args, []⟩).memory := by
  rw [plain5]
  exact laidMet_of_run' 8 (by kernel_rfl) (by kernel_rfl)
end Go.Proofs.Qxb6605687aDoor
