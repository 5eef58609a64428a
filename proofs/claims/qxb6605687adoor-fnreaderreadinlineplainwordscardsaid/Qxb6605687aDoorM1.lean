/- The reader in memory. -/
import Derived.Test.Qxb6605687aDoorProg
import Derived.WalkKit
import Derived.Below
import Derived.OwnWalk
import Derived.Deep.OwnRows
import Derived.Deep.LoopGhost
import Derived.Deep.AppendLies
import Derived.Deep.RegionHeld3
import Derived.Deep.RegionLaw
import Derived.Deep.DeepCutAuto
import Derived.Laws.CopyOwn
import Derived.Laws.Slices
import Derived.BigQuiet
import Derived.LaidEql
import Derived.Deep.QuietTactic
namespace Go.Proofs.Qxb6605687aDoor
open Go.RowKit
set_option maxHeartbeats 2000000
set_option linter.unusedSimpArgs false
set_option linter.unusedVariables false

/-- Bytes as cells. -/
def u8s (l : List Int) : List Value := l.map (Value.int .u8)
theorem u8s_len (l : List Int) : (u8s l).length = l.length := by simp [u8s]
theorem u8s_one (l : List Int) : ∀ v ∈ u8s l, v.oneCell' = true := fun v hv => by
  obtain ⟨x, _, rfl⟩ := List.mem_map.1 hv
  rfl
theorem u8s_append (a b : List Int) : u8s (a ++ b) = u8s a ++ u8s b := by simp [u8s]
theorem u8s_take (a : List Int) (n : Nat) : u8s (a.take n) = (u8s a).take n := by simp [u8s, List.map_take]
theorem u8s_drop (a : List Int) (n : Nat) : u8s (a.drop n) = (u8s a).drop n := by simp [u8s, List.map_drop]

/-- What the reader's variables hold. -/
structure St where
  ag : Value
  ar : Value
  lg : Value
  r : Nat
  w : Nat
  er : Value
  lb : Int
  lr : Int
  n : Nat
  i : Nat
  pr : Int
  ub : List Int

/-- The reader's five blocks: h the bytes.Reader, h+1 the counter, h+2 the bufio.Reader, h+3 its buffer, h+4 the Reader. -/
structure RS (h D cap : Nat) (xs : List Int) (W : World) (s : St) : Prop where
  hY : W.heap[h]? = some (.cells #[.slice (some ⟨D, 0, none⟩) xs.length cap, .int .i64 s.i, .int .i64 s.pr] 85 (0, 0))
  hC : W.heap[h + 1]? = some (.cells #[.iface 69 (.pointer (some ⟨h, 0, none⟩)), .int .i64 s.n] 74 (0, 0))
  hB : W.heap[h + 2]? = some (.cells #[.slice (some ⟨h + 3, 0, none⟩) 16384 16384, .iface 76 (.pointer (some ⟨h + 1, 0, none⟩)), .int .i64 s.r, .int .i64 s.w, s.er, .int .i64 s.lb, .int .i64 s.lr] 87 (0, 0))
  hU : W.heap[h + 3]? = some (.cells (u8s s.ub).toArray 5 (0, 0))
  hR : W.heap[h + 4]? = some (.cells #[.pointer (some ⟨h + 2, 0, none⟩), .pointer (some ⟨h + 1, 0, none⟩), s.ag, s.ar, s.lg] 78 (0, 0))
  us : s.ub.length = 16384

theorem heap_set {w : World} {b : Nat} {cs : Array Value} {t : TypeId} {fr : Nat × Nat} (h : w.heap[b]? = some (.cells cs t fr)) (o : Nat) (v : Value) :
    (w.setCell ⟨b, o, none⟩ v).heap[b]? = some (.cells (cs.setIfInBounds o v) t fr) := by
  simp [World.setCell, Array.getElem?_modify, h]
theorem heap_set_ne {w : World} {a : Addr} {v : Value} {k : Nat} (h : k ≠ a.block) : (w.setCell a v).heap[k]? = w.heap[k]? := Below.heap_setCell w a v k h
theorem frozen_row {w : World} {b : Nat} {cs : Array Value} {t : TypeId} (h : w.heap[b]? = some (.cells cs t (0, 0))) (o : Nat) : w.frozen? ⟨b, o, none⟩ = false := by
  simp [World.frozen?, h]

section
variable {h D cap : Nat} {xs : List Int} {W : World} {s : St}
theorem RS.y0 (H : RS h D cap xs W s) : W.cell? ⟨h, 0, none⟩ = some (.slice (some ⟨D, 0, none⟩) xs.length cap) := by rw [cell_of_row _ _ _ _ _ _ H.hY]; rfl
theorem RS.y1 (H : RS h D cap xs W s) : W.cell? ⟨h, 1, none⟩ = some (.int .i64 s.i) := by rw [cell_of_row _ _ _ _ _ _ H.hY]; rfl
theorem RS.y2 (H : RS h D cap xs W s) : W.cell? ⟨h, 2, none⟩ = some (.int .i64 s.pr) := by rw [cell_of_row _ _ _ _ _ _ H.hY]; rfl
theorem RS.fY (H : RS h D cap xs W s) (o : Nat) : W.frozen? ⟨h, o, none⟩ = false := frozen_row H.hY o
theorem RS.c0 (H : RS h D cap xs W s) : W.cell? ⟨h + 1, 0, none⟩ = some (.iface 69 (.pointer (some ⟨h, 0, none⟩))) := by rw [cell_of_row _ _ _ _ _ _ H.hC]; rfl
theorem RS.c1 (H : RS h D cap xs W s) : W.cell? ⟨h + 1, 1, none⟩ = some (.int .i64 s.n) := by rw [cell_of_row _ _ _ _ _ _ H.hC]; rfl
theorem RS.fC (H : RS h D cap xs W s) (o : Nat) : W.frozen? ⟨h + 1, o, none⟩ = false := frozen_row H.hC o
theorem RS.b0 (H : RS h D cap xs W s) : W.cell? ⟨h + 2, 0, none⟩ = some (.slice (some ⟨h + 3, 0, none⟩) 16384 16384) := by rw [cell_of_row _ _ _ _ _ _ H.hB]; rfl
theorem RS.b1 (H : RS h D cap xs W s) : W.cell? ⟨h + 2, 1, none⟩ = some (.iface 76 (.pointer (some ⟨h + 1, 0, none⟩))) := by rw [cell_of_row _ _ _ _ _ _ H.hB]; rfl
theorem RS.b2 (H : RS h D cap xs W s) : W.cell? ⟨h + 2, 2, none⟩ = some (.int .i64 s.r) := by rw [cell_of_row _ _ _ _ _ _ H.hB]; rfl
theorem RS.b3 (H : RS h D cap xs W s) : W.cell? ⟨h + 2, 3, none⟩ = some (.int .i64 s.w) := by rw [cell_of_row _ _ _ _ _ _ H.hB]; rfl
theorem RS.b4 (H : RS h D cap xs W s) : W.cell? ⟨h + 2, 4, none⟩ = some s.er := by rw [cell_of_row _ _ _ _ _ _ H.hB]; rfl
theorem RS.b5 (H : RS h D cap xs W s) : W.cell? ⟨h + 2, 5, none⟩ = some (.int .i64 s.lb) := by rw [cell_of_row _ _ _ _ _ _ H.hB]; rfl
theorem RS.b6 (H : RS h D cap xs W s) : W.cell? ⟨h + 2, 6, none⟩ = some (.int .i64 s.lr) := by rw [cell_of_row _ _ _ _ _ _ H.hB]; rfl
theorem RS.fB (H : RS h D cap xs W s) (o : Nat) : W.frozen? ⟨h + 2, o, none⟩ = false := frozen_row H.hB o
theorem RS.r0 (H : RS h D cap xs W s) : W.cell? ⟨h + 4, 0, none⟩ = some (.pointer (some ⟨h + 2, 0, none⟩)) := by rw [cell_of_row _ _ _ _ _ _ H.hR]; rfl
theorem RS.r1 (H : RS h D cap xs W s) : W.cell? ⟨h + 4, 1, none⟩ = some (.pointer (some ⟨h + 1, 0, none⟩)) := by rw [cell_of_row _ _ _ _ _ _ H.hR]; rfl
theorem RS.r2 (H : RS h D cap xs W s) : W.cell? ⟨h + 4, 2, none⟩ = some s.ag := by rw [cell_of_row _ _ _ _ _ _ H.hR]; rfl
theorem RS.r3 (H : RS h D cap xs W s) : W.cell? ⟨h + 4, 3, none⟩ = some s.ar := by rw [cell_of_row _ _ _ _ _ _ H.hR]; rfl
theorem RS.r4 (H : RS h D cap xs W s) : W.cell? ⟨h + 4, 4, none⟩ = some s.lg := by rw [cell_of_row _ _ _ _ _ _ H.hR]; rfl
theorem RS.fR (H : RS h D cap xs W s) (o : Nat) : W.frozen? ⟨h + 4, o, none⟩ = false := frozen_row H.hR o
theorem RS.fU (H : RS h D cap xs W s) (o : Nat) : W.frozen? ⟨h + 3, o, none⟩ = false := frozen_row H.hU o
theorem RS.u (H : RS h D cap xs W s) (j : Nat) (hj : j < 16384) : W.cell? ⟨h + 3, j, none⟩ = some (.int .u8 (s.ub.getD j 0)) := by
  rw [cell_of_row _ _ _ _ _ _ H.hU]
  have : j < s.ub.length := by rw [H.us]; exact hj
  simp [u8s, this]
theorem RS.lt (H : RS h D cap xs W s) : h + 4 < W.heap.size := by
  rcases Nat.lt_or_ge (h + 4) W.heap.size with h' | h'
  · exact h'
  · have := H.hR
    simp [Array.getElem?_eq_none h'] at this

/-- The five blocks as they were. -/
theorem RS.same (H : RS h D cap xs W s) {W' : World} (hs : ∀ k, h ≤ k → k ≤ h + 4 → W'.heap[k]? = W.heap[k]?) : RS h D cap xs W' s :=
  ⟨(hs _ (by omega) (by omega)).trans H.hY, (hs _ (by omega) (by omega)).trans H.hC, (hs _ (by omega) (by omega)).trans H.hB, (hs _ (by omega) (by omega)).trans H.hU, (hs _ (by omega) (by omega)).trans H.hR, H.us⟩
theorem RS.drewN (H : RS h D cap xs W s) (k : Nat) : RS h D cap xs { W with drawn := W.drawn + k } s := ⟨H.hY, H.hC, H.hB, H.hU, H.hR, H.us⟩
theorem RS.drew (H : RS h D cap xs W s) : RS h D cap xs W.drew s := ⟨H.hY, H.hC, H.hB, H.hU, H.hR, H.us⟩
theorem RS.alloc (H : RS h D cap xs W s) (o : Obj) : RS h D cap xs (W.alloc o) s := H.same fun k _ hk => Below.heap_alloc _ _ _ (by have := H.lt; omega)
theorem RS.grown (H : RS h D cap xs W s) {W' : World} {row : Option Nat} (hg : W.grownBy W' row) (hr : ∀ k, row = some k → h + 5 ≤ k) : RS h D cap xs W' s :=
  H.same fun k _ hk => hg.block k (by have := H.lt; omega) (fun e => by have := hr k e.symm; omega)
theorem RS.setY1 (H : RS h D cap xs W s) (v : Nat) : RS h D cap xs (W.setCell ⟨h, 1, none⟩ (.int .i64 v)) { s with i := v } :=
  ⟨heap_set H.hY _ _, (heap_set_ne (by simp)).trans H.hC, (heap_set_ne (by simp)).trans H.hB, (heap_set_ne (by simp)).trans H.hU, (heap_set_ne (by simp)).trans H.hR, H.us⟩
theorem RS.setY2 (H : RS h D cap xs W s) (v : Int) : RS h D cap xs (W.setCell ⟨h, 2, none⟩ (.int .i64 v)) { s with pr := v } :=
  ⟨heap_set H.hY _ _, (heap_set_ne (by simp)).trans H.hC, (heap_set_ne (by simp)).trans H.hB, (heap_set_ne (by simp)).trans H.hU, (heap_set_ne (by simp)).trans H.hR, H.us⟩
theorem RS.setC1 (H : RS h D cap xs W s) (v : Nat) : RS h D cap xs (W.setCell ⟨h + 1, 1, none⟩ (.int .i64 v)) { s with n := v } :=
  ⟨(heap_set_ne (by simp)).trans H.hY, heap_set H.hC _ _, (heap_set_ne (by simp)).trans H.hB, (heap_set_ne (by simp)).trans H.hU, (heap_set_ne (by simp)).trans H.hR, H.us⟩
theorem RS.setB2 (H : RS h D cap xs W s) (v : Nat) : RS h D cap xs (W.setCell ⟨h + 2, 2, none⟩ (.int .i64 v)) { s with r := v } :=
  ⟨(heap_set_ne (by simp)).trans H.hY, (heap_set_ne (by simp)).trans H.hC, heap_set H.hB _ _, (heap_set_ne (by simp)).trans H.hU, (heap_set_ne (by simp)).trans H.hR, H.us⟩
theorem RS.setB3 (H : RS h D cap xs W s) (v : Nat) : RS h D cap xs (W.setCell ⟨h + 2, 3, none⟩ (.int .i64 v)) { s with w := v } :=
  ⟨(heap_set_ne (by simp)).trans H.hY, (heap_set_ne (by simp)).trans H.hC, heap_set H.hB _ _, (heap_set_ne (by simp)).trans H.hU, (heap_set_ne (by simp)).trans H.hR, H.us⟩
theorem RS.setB4 (H : RS h D cap xs W s) (v : Value) : RS h D cap xs (W.setCell ⟨h + 2, 4, none⟩ v) { s with er := v } :=
  ⟨(heap_set_ne (by simp)).trans H.hY, (heap_set_ne (by simp)).trans H.hC, heap_set H.hB _ _, (heap_set_ne (by simp)).trans H.hU, (heap_set_ne (by simp)).trans H.hR, H.us⟩
theorem RS.setB5 (H : RS h D cap xs W s) (v : Int) : RS h D cap xs (W.setCell ⟨h + 2, 5, none⟩ (.int .i64 v)) { s with lb := v } :=
  ⟨(heap_set_ne (by simp)).trans H.hY, (heap_set_ne (by simp)).trans H.hC, heap_set H.hB _ _, (heap_set_ne (by simp)).trans H.hU, (heap_set_ne (by simp)).trans H.hR, H.us⟩
theorem RS.setB6 (H : RS h D cap xs W s) (v : Int) : RS h D cap xs (W.setCell ⟨h + 2, 6, none⟩ (.int .i64 v)) { s with lr := v } :=
  ⟨(heap_set_ne (by simp)).trans H.hY, (heap_set_ne (by simp)).trans H.hC, heap_set H.hB _ _, (heap_set_ne (by simp)).trans H.hU, (heap_set_ne (by simp)).trans H.hR, H.us⟩
theorem RS.setR2 (H : RS h D cap xs W s) (v : Value) : RS h D cap xs (W.setCell ⟨h + 4, 2, none⟩ v) { s with ag := v } :=
  ⟨(heap_set_ne (by simp)).trans H.hY, (heap_set_ne (by simp)).trans H.hC, (heap_set_ne (by simp)).trans H.hB, (heap_set_ne (by simp)).trans H.hU, heap_set H.hR _ _, H.us⟩
theorem RS.setR3 (H : RS h D cap xs W s) (v : Value) : RS h D cap xs (W.setCell ⟨h + 4, 3, none⟩ v) { s with ar := v } :=
  ⟨(heap_set_ne (by simp)).trans H.hY, (heap_set_ne (by simp)).trans H.hC, (heap_set_ne (by simp)).trans H.hB, (heap_set_ne (by simp)).trans H.hU, heap_set H.hR _ _, H.us⟩
theorem RS.setR4 (H : RS h D cap xs W s) (v : Value) : RS h D cap xs (W.setCell ⟨h + 4, 4, none⟩ v) { s with lg := v } :=
  ⟨(heap_set_ne (by simp)).trans H.hY, (heap_set_ne (by simp)).trans H.hC, (heap_set_ne (by simp)).trans H.hB, (heap_set_ne (by simp)).trans H.hU, heap_set H.hR _ _, H.us⟩
theorem RS.setU (H : RS h D cap xs W s) (l : List Int) (hl : l.length = 16384) : RS h D cap xs (W.setRow (h + 3) (u8s l).toArray) { s with ub := l } :=
  ⟨(setRow_other _ _ _ _ (by omega)).trans H.hY, (setRow_other _ _ _ _ (by omega)).trans H.hC, (setRow_other _ _ _ _ (by omega)).trans H.hB, setRow_heap _ _ _ _ _ _ H.hU, (setRow_other _ _ _ _ (by omega)).trans H.hR, hl⟩
end

theorem below_setRow {B : Nat} {a w : World} (hb : Below B a w) (g : Nat) (R : Array Value) (hg : B ≤ g) : Below B a (w.setRow g R) :=
  hb.trans ⟨rfl, rfl, rfl, by simp [World.setRow], fun k hk => setRow_other w g k R (by omega)⟩
theorem below_drewN {B : Nat} {a w : World} (hb : Below B a w) (k : Nat) : Below B a { w with drawn := w.drawn + k } := ⟨hb.os, hb.tape, hb.output, hb.size, hb.block⟩

theorem size24 (W : World) : (sizeOf (Tryd.prog.elem 24)).run Tryd.prog W = .ok 1 W := by
  have h0 : Tryd.prog.elem 24 = 5 := by kernel_rfl
  have h1 : (Tryd.prog.info? 5).map (·.size) = some 1 := by kernel_rfl
  rw [h0]
  cases hq : Tryd.prog.info? 5 with
  | none => simp [hq] at h1
  | some i =>
    have hi : i.size = 1 := by simpa [hq] using h1
    simp [sizeOf, typeInfo, hq, hi]
theorem und24 : Tryd.prog.underlying 24 = some (.slice (Tryd.prog.elem 24)) := by kernel_rfl
theorem add_mk (g o l : Nat) : (⟨g, o, none⟩ : Addr).add l = ⟨g, o + l, none⟩ := by unfold Addr.add; split <;> simp_all
theorem slice24_l (g o n c l : Nat) (h1 : l ≤ n) (hne : c ≠ l) (W : World) :
    (Instr.sliceAt 24 (.slice (some ⟨g, o, none⟩) n c) (some (.int .i64 l)) none none).run Tryd.prog W = .ok (.slice (some ⟨g, o + l, none⟩) (n - l) (c - l)) W := by
  rw [run_sliceAt_slice _ _ _ _ _ _ und24, run_slice_l _ _ _ _ _ und24 _ _ (by omega) (by omega), size24]
  simp [sliced, hne, add_mk]
theorem slice24_h (g o n c m : Nat) (h1 : m ≤ c) (W : World) :
    (Instr.sliceAt 24 (.slice (some ⟨g, o, none⟩) n c) none (some (.int .i64 m)) none).run Tryd.prog W = .ok (.slice (some ⟨g, o, none⟩) m c) W := by
  rw [run_sliceAt_slice _ _ _ _ _ _ und24, run_slice_h _ _ _ _ _ und24 _ _ (by omega) (by omega), size24]
  simp [sliced, add_mk]
theorem slice24_lh (g o n c l m : Nat) (h1 : l ≤ m) (h2 : m ≤ c) (hne : c ≠ l) (W : World) :
    (Instr.sliceAt 24 (.slice (some ⟨g, o, none⟩) n c) (some (.int .i64 l)) (some (.int .i64 m)) none).run Tryd.prog W = .ok (.slice (some ⟨g, o + l, none⟩) (m - l) (c - l)) W := by
  rw [run_sliceAt_slice _ _ _ _ _ _ und24, run_slice_lh _ _ _ _ _ und24 _ _ _ _ (by omega) (by omega) (by omega), size24]
  simp [sliced, hne, add_mk]

/-- The data. -/
def Dat (W : World) (D : Nat) (xs : List Int) : Prop := ∀ j, j < xs.length → W.cell? ⟨D, j, none⟩ = some (.int .u8 (xs.getD j 0))
theorem Dat.below {W W' : World} {D : Nat} {xs : List Int} {B : Nat} (hd : Dat W D xs) (hb : Below B W W') (hD : D < B) : Dat W' D xs := fun j hj => by
  rw [hb.cell (show (⟨D, j, none⟩ : Addr).block < B from hD)]
  exact hd j hj

/-- Nothing has turned but the reader's five blocks. -/
structure Fr (h : Nat) (w w' : World) : Prop where
  bel : Below h w w'
  up : ∀ k, h + 5 ≤ k → w'.heap[k]? = w.heap[k]?
theorem Fr.refl (h : Nat) (w : World) : Fr h w w := ⟨Below.refl h w, fun _ _ => rfl⟩
theorem Fr.trans {h : Nat} {a b c : World} (x : Fr h a b) (y : Fr h b c) : Fr h a c := ⟨x.bel.trans y.bel, fun k hk => (y.up k hk).trans (x.up k hk)⟩
theorem Fr.drew {h : Nat} {a w : World} (x : Fr h a w) : Fr h a w.drew := ⟨x.bel.drew, x.up⟩
theorem fr_drewN {h : Nat} {a w : World} (x : Fr h a w) (k : Nat) : Fr h a { w with drawn := w.drawn + k } := ⟨below_drewN x.bel k, x.up⟩
theorem Fr.setCell {h : Nat} {a w : World} (x : Fr h a w) {p : Addr} (hp : h ≤ p.block ∧ p.block < h + 5) (u : Value) : Fr h a (w.setCell p u) := ⟨x.bel.setCell hp.1 u, fun k hk => (heap_set_ne (by omega)).trans (x.up k hk)⟩
theorem fr_setRow {h : Nat} {a w : World} (x : Fr h a w) (g : Nat) (R : Array Value) (hg : h ≤ g ∧ g < h + 5) : Fr h a (w.setRow g R) := ⟨below_setRow x.bel g R hg.1, fun k hk => (setRow_other w g k R (by omega)).trans (x.up k hk)⟩
theorem Dat.fr {W W' : World} {D : Nat} {xs : List Int} {B : Nat} (hd : Dat W D xs) (hb : Fr B W W') (hD : D < B) : Dat W' D xs := hd.below hb.bel hD

/-- The errors that are laid. -/
structure Gl (B : Nat) (W : World) (a1 a3 a4 : Addr) : Prop where
  g1 : W.cell? ⟨1, 0, none⟩ = some (.iface 160 (.pointer (some a1)))
  g3 : W.cell? ⟨3, 0, none⟩ = some (.iface 160 (.pointer (some a3)))
  g4 : W.cell? ⟨4, 0, none⟩ = some (.iface 160 (.pointer (some a4)))
  ne : a3 ≠ a1
  h1 : ∃ c t, W.heap[a1.block]? = some (.cells c t (0, 0))
  h3 : ∃ c t, W.heap[a3.block]? = some (.cells c t (0, 0))
  l1 : a1.block < B
  l3 : a3.block < B
  l5 : 5 ≤ B
theorem Gl.below {B0 : Nat} {W W' : World} {a1 a3 a4 : Addr} {B : Nat} (hd : Gl B0 W a1 a3 a4) (hb : Below B W W') (hB : B0 ≤ B) : Gl B0 W' a1 a3 a4 := by
  have h5 := hd.l5
  have h1 := hd.l1
  have h3 := hd.l3
  refine ⟨?_, ?_, ?_, hd.ne, ?_, ?_, h1, h3, h5⟩
  · rw [hb.cell (show (⟨1, 0, none⟩ : Addr).block < B from by show 1 < B; omega)]; exact hd.g1
  · rw [hb.cell (show (⟨3, 0, none⟩ : Addr).block < B from by show 3 < B; omega)]; exact hd.g3
  · rw [hb.cell (show (⟨4, 0, none⟩ : Addr).block < B from by show 4 < B; omega)]; exact hd.g4
  · obtain ⟨c, t, e⟩ := hd.h1
    exact ⟨c, t, (hb.block _ (by omega)).trans e⟩
  · obtain ⟨c, t, e⟩ := hd.h3
    exact ⟨c, t, (hb.block _ (by omega)).trans e⟩
theorem Gl.fr {B0 : Nat} {W W' : World} {a1 a3 a4 : Addr} {B : Nat} (hd : Gl B0 W a1 a3 a4) (hb : Fr B W W') (hB : B0 ≤ B) : Gl B0 W' a1 a3 a4 := hd.below hb.bel hB
theorem e27 : ∃ ms, Tryd.prog.underlying 27 = some (.interface ms) := ⟨_, Tryd.underlying27⟩
theorem info160 : ∃ i, Tryd.prog.info? 160 = some i ∧ i.comparable = true := by
  have h : (Tryd.prog.info? 160).map (·.comparable) = some true := by kernel_rfl
  cases hq : Tryd.prog.info? 160 with
  | none => simp [hq] at h
  | some i => exact ⟨i, rfl, by simpa [hq] using h⟩
theorem info176 : ∃ i, Tryd.prog.info? 176 = some i ∧ i.size ≠ 0 := by
  have h : (Tryd.prog.info? 176).map (·.size) = some 1 := by kernel_rfl
  cases hq : Tryd.prog.info? 176 with
  | none => simp [hq] at h
  | some i =>
    have : i.size = 1 := by simpa [hq] using h
    exact ⟨i, rfl, by omega⟩
theorem eql_same (W : World) (a : Addr) : (binOp .eql 27 (.iface 160 (.pointer (some a))) (.iface 160 (.pointer (some a)))).run Tryd.prog W = .ok (.bool true) W := by
  obtain ⟨ms, h27⟩ := e27
  obtain ⟨i, hi, hc⟩ := info160
  obtain ⟨j, hj, _⟩ := info176
  exact run_eql_iface_ptr_same W a h27 Tryd.underlying160 hi hc hj
theorem Gl.eql31 {B : Nat} {W : World} {a1 a3 a4 : Addr} (g : Gl B W a1 a3 a4) : (binOp .eql 27 (.iface 160 (.pointer (some a3))) (.iface 160 (.pointer (some a1)))).run Tryd.prog W = .ok (.bool false) W := by
  obtain ⟨ms, h27⟩ := e27
  obtain ⟨i, hi, hc⟩ := info160
  obtain ⟨j, hj, hz⟩ := info176
  obtain ⟨c1, t1, e1⟩ := g.h1
  obtain ⟨c3, t3, e3⟩ := g.h3
  exact run_eql_iface_ptr_other W h27 Tryd.underlying160 hi hc hj hz g.ne e3 e1
theorem eql_nil_left (W : World) (a : Addr) : (binOp .eql 27 .nilIface (.iface 160 (.pointer (some a)))).run Tryd.prog W = .ok (.bool false) W := by
  obtain ⟨ms, h27⟩ := e27
  exact run_eql_iface_nil_left W 160 _ h27
end Go.Proofs.Qxb6605687aDoor
